import Derived.Test.YbulkcoscRows
import Derived.Test.YbulkcoscLawOld
import Derived.WalkKit
import Derived.ProofKit
import Derived.Deep.Slices
import Derived.Carry
namespace Go.Proofs.Ybulkcosc.lawS4526CRebuild
open Go.ChangeShapes Go.WideShapes Go.ChangeAt Go.RowKit
set_option linter.unusedVariables false

theorem own : ownKnob Yba.prog.godebug = none := by kernel_rfl
theorem laidOut : laidOutB Yba.prog = true := by kernel_rfl
theorem cells43 : Yba.prog.cellsOf 43 = 3 := by kernel_rfl
theorem cells5 : Yba.prog.cellsOf 5 = 1 := by kernel_rfl
theorem cells41 : Yba.prog.cellsOf 41 = 1 := by kernel_rfl
theorem cells9 : Yba.prog.cellsOf 9 = 1 := by kernel_rfl

theorem byte_bounds {n : Int} (h : (Lit.int .u8 n).wf = true) : 0 ≤ n ∧ n < 256 := by
  simp only [Lit.wf, Bool.and_eq_true, decide_eq_true_eq] at h
  have h1 := h.1
  have h2 := h.2
  simp [IntKind.min, IntKind.max, IntKind.bits, IntKind.signed] at h1 h2
  omega
theorem u16_bounds {n : Int} (h : (Lit.int .u16 n).wf = true) : 0 ≤ n ∧ n < 65536 := by
  simp only [Lit.wf, Bool.and_eq_true, decide_eq_true_eq] at h
  have h1 := h.1
  have h2 := h.2
  simp [IntKind.min, IntKind.max, IntKind.bits, IntKind.signed] at h1 h2
  omega
theorem u64_bounds {n : Int} (h : (Lit.int .u64 n).wf = true) : 0 ≤ n ∧ n < 18446744073709551616 := by
  simp only [Lit.wf, Bool.and_eq_true, decide_eq_true_eq] at h
  have h1 := h.1
  have h2 := h.2
  simp [IntKind.min, IntKind.max, IntKind.bits, IntKind.signed] at h1 h2
  omega

set_option maxRecDepth 100000 in
/-- the cells of a slot's description -/
theorem slot_of {H : Type} {enc : TypeId × Value → H} {w : World} {base : Nat} {sp : Nat → Bool} {held : Bool} {fuel : Nat} {cs : List Value} {x : DataW H × List MemPlace}
    (h : DataW.trod enc Yba.prog w base sp held fuel 43 cs = some x) : ∃ (k : Int) (v : Nat) (s : ByteArray), (0 : Int) ≤ k ∧ k < 256 ∧ v < 2 ^ 64 ∧ cs = [.int .u8 k, .int .u64 (v : Int), .string s] := by
  obtain ⟨xs, n, _, _, hl, hlen, hf⟩ := DataW.trod_struct Yba.underlying43 h
  rw [cells43] at hl
  simp at hlen
  match cs, hl with
  | [c0, c1, c2], _ =>
    have f0 := hf 0 { name := "Kind", type := 5, offset := 0, embedded := false, tag := "", pkgPath := "", byteOffset := 0 } rfl
    simp only [cells5] at f0
    obtain ⟨y0, hy0⟩ : ∃ y, xs[0]? = some y := ⟨xs[0]'(by omega), List.getElem?_eq_getElem (by omega)⟩
    rw [hy0] at f0
    obtain ⟨b0, e0, _, hw0⟩ := DataW.trod_int Yba.underlying5 f0
    simp at e0
    have f1 := hf 1 { name := "Hash", type := 41, offset := 1, embedded := false, tag := "", pkgPath := "", byteOffset := 8 } rfl
    simp only [cells41] at f1
    obtain ⟨y1, hy1⟩ : ∃ y, xs[1]? = some y := ⟨xs[1]'(by omega), List.getElem?_eq_getElem (by omega)⟩
    rw [hy1] at f1
    obtain ⟨b1, e1, _, hw1⟩ := DataW.trod_int Yba.underlying41 f1
    simp at e1
    have f2 := hf 2 { name := "Key", type := 9, offset := 2, embedded := false, tag := "", pkgPath := "", byteOffset := 16 } rfl
    simp only [cells9] at f2
    obtain ⟨y2, hy2⟩ : ∃ y, xs[2]? = some y := ⟨xs[2]'(by omega), List.getElem?_eq_getElem (by omega)⟩
    rw [hy2] at f2
    obtain ⟨b2, e2, _, _⟩ := DataW.trod_string Yba.underlying9 f2
    simp at e2
    have hb := byte_bounds hw0
    have hu := u64_bounds hw1
    exact ⟨b0, b1.toNat, b2, hb.1, hb.2, by omega, by rw [Int.toNat_of_nonneg hu.1]; simp [e0, e1, e2]⟩

/-- the number in a cell -/
def iOf (w : World) (a : Addr) : Int := match w.cell? a with
  | some (.int _ k) => k
  | _ => 0
theorem iOf_eq {w : World} {a : Addr} {kd : IntKind} {k : Int} (h : w.cell? a = some (.int kd k)) : iOf w a = k := by simp [iOf, h]
/-- the string in a cell -/
def sOf (w : World) (a : Addr) : ByteArray := match w.cell? a with
  | some (.string s) => s
  | _ => ByteArray.empty
theorem sOf_eq {w : World} {a : Addr} {s : ByteArray} (h : w.cell? a = some (.string s)) : sOf w a = s := by simp [sOf, h]

/-- the description of the old table -/
theorem spec_of {H : Type} {enc : TypeId × Value → H} {w : World} {base : Nat} {sp : Nat → Bool} {held : Bool} {fuel : Nat} {pa : Option Addr} {len cap : Nat} {x : DataW H × List MemPlace}
    (h : DataW.trod enc Yba.prog w base sp held fuel 22 [.slice pa len cap] = some x) : ∃ (Kd : Nat → Int) (Hs : Nat → Nat) (St : Nat → ByteArray), len = 0 ∨ ∃ b o, pa = some ⟨b, o, none⟩ ∧ SpecAt w b o len Kd Hs St := by
  rcases Go.Deep.open_slice Yba.underlying22 h with ⟨h0, _⟩ | ⟨a, l, c, m, n, D, Pl, h0, _, hl, _, hmm, _, hel⟩
  · simp at h0
    exact ⟨fun _ => 0, fun _ => 0, fun _ => ByteArray.empty, Or.inl h0.2.1⟩
  · simp at h0
    obtain ⟨rfl, rfl, rfl⟩ := h0
    by_cases hz : len = 0
    · exact ⟨fun _ => 0, fun _ => 0, fun _ => ByteArray.empty, Or.inl hz⟩
    have hm : len ≤ m := by rw [hmm]; split <;> omega
    have hrow : ∀ i, i < len → ∃ (k : Int) (v : Nat) (s : ByteArray), (0 : Int) ≤ k ∧ k < 256 ∧ v < 2 ^ 64 ∧ w.cell? ((a.add (i * 3)).add 0) = some (.int .u8 k) ∧ w.cell? ((a.add (i * 3)).add 1) = some (.int .u64 (v : Int)) ∧ w.cell? ((a.add (i * 3)).add 2) = some (.string s) := by
      intro i hi
      obtain ⟨cs', hc, ht⟩ := hel i (by omega)
      obtain ⟨k, v, s, h1, h2, h3, rfl⟩ := slot_of ht
      rw [cells43] at hc
      refine ⟨k, v, s, h1, h2, h3, ?_, ?_, ?_⟩
      · rw [(World.cells?_some hc).2.2 0 (by decide)]; rfl
      · rw [(World.cells?_some hc).2.2 1 (by decide)]; rfl
      · rw [(World.cells?_some hc).2.2 2 (by decide)]; rfl
    obtain ⟨b, off, spot⟩ := a
    have hspot : spot = none := by
      obtain ⟨_, _, _, _, _, _, h1, _⟩ := hrow 0 (by omega)
      simpa [Addr.add] using World.cell?_spot h1
    subst hspot
    refine ⟨fun i => iOf w ⟨b, off + i * 3, none⟩, fun i => (iOf w ⟨b, off + i * 3 + 1, none⟩).toNat, fun i => sOf w ⟨b, off + i * 3 + 2, none⟩, Or.inr ⟨b, off, rfl, fun i hi => ?_⟩⟩
    obtain ⟨k, v, s, h1, h2, h3, h4, h5, h6⟩ := hrow i hi
    rw [Go.WideShapes.add_plain, Go.WideShapes.add_plain] at h4 h5 h6
    have e4 : iOf w ⟨b, off + i * 3, none⟩ = k := iOf_eq h4
    have e5 : iOf w ⟨b, off + i * 3 + 1, none⟩ = (v : Int) := iOf_eq h5
    have e6 : sOf w ⟨b, off + i * 3 + 2, none⟩ = s := sOf_eq h6
    simp only [e4, e5, e6, Int.toNat_natCast]
    exact ⟨h4, h5, h6, h1, h2, h3⟩

theorem walk (pa : Option Addr) (n ac : Nat) (sel nsel used : Int) (hs : 0 ≤ sel ∧ sel < 256) (hns : 0 ≤ nsel ∧ nsel < 65536) (w : World) (Kd : Nat → Int) (Hs : Nat → Nat) (St : Nat → ByteArray)
    (h1 : n = 0 ∨ ∃ b o, pa = some ⟨b, o, none⟩ ∧ SpecAt w b o n Kd Hs St) :
    Calls Yba.prog 3 #[.slice pa n ac, .int .u8 sel, .int .u16 nsel, .int .i64 used] w fun e w' => e = .returned (.bool true) ∧ Below w.heap.size w w' := by
  by_cases h : sel % 4 = 3
  · exact law_nil pa n ac sel nsel used w hs h hns
  · exact law_old pa n ac sel nsel used Kd Hs St w hs h hns h1

set_option maxRecDepth 100000 in
theorem lifted (os : Os) (started : os.Started) (H : Type) (enc : TypeId × Value → H) :
    ReturnsInHanded {} Yba.checked os 3 .any (Rows.lawS4526CRebuildSpec.pre6 enc Yba.prog Yba.f3 Rows.lawS4526CRebuildRow.domain false) (Rows.lawS4526CRebuildSpec.post enc Yba.prog Yba.f3 false true false false) := by
  refine returnsInHanded_of_change (C := Yba.checked) own started (by kernel_rfl) Yba.func3
    (ChangeSpec.witness6 (enc := enc) (C := Yba.checked) false ⟨#[], #[.slice none 0 0, .int .u8 0, .int .u16 0, .int .i64 0], []⟩ 8 (by kernel_rfl) (by kernel_rfl) (by kernel_rfl) (by kernel_rfl)) ?_
  intro W base args ds gs before hval0 hW hcnd _
  have hval : ∀ (j : Nat) t v, Yba.f3.params[j]? = some t → args[j]? = some v → Value.okWide Yba.prog W .any base t v := hval0
  have hW' := hW
  obtain ⟨p, q, hA0, hV, rfl, hfz, hnd⟩ := hW
  have hA : DataW.TrodAll enc Yba.prog W 0 (fun _ => true) true Yba.f3.params.toList args.toList ds p := hA0
  rw [Yba.params3] at hA hval
  obtain ⟨v0, vs0, d0, ds0, p0, q0, hargs, rfl, rfl, h0, r0⟩ := trodAll_cons hA
  obtain ⟨v1, vs1, d1, ds1, p1, q1, rfl, rfl, rfl, h1, r1⟩ := trodAll_cons r0
  obtain ⟨v2, vs2, d2, ds2, p2, q2, rfl, rfl, rfl, h2, r2⟩ := trodAll_cons r1
  obtain ⟨v3, vs3, d3, ds3, p3, q3, rfl, rfl, rfl, h3, r3⟩ := trodAll_cons r2
  obtain ⟨rfl, rfl, rfl⟩ := trodAll_nil r3
  obtain rfl : args = #[v0, v1, v2, v3] := by cases args; simp_all
  obtain ⟨rfl, rfl⟩ := trodVars_none hV
  obtain ⟨a0, len0, cap0, rfl⟩ := okWide_slice Yba.underlying22 (hval 0 22 v0 rfl rfl)
  obtain ⟨a1, rfl, _, _, w1⟩ := open_int Yba.underlying5 (hval 1 5 v1 rfl rfl) h1
  obtain ⟨a2, rfl, _, _, w2⟩ := open_int Yba.underlying23 (hval 2 23 v2 rfl rfl) h2
  obtain ⟨a3, rfl, _, _, w3⟩ := open_int Yba.underlying3 (hval 3 3 v3 rfl rfl) h3
  have lt0 : ∀ x ∈ p0, x.block < W.heap.size := by obtain ⟨m, hm⟩ := h0; exact DataW.trod_lt m _ _ _ hm
  have lt1 : ∀ x ∈ p1, x.block < W.heap.size := by obtain ⟨m, hm⟩ := h1; exact DataW.trod_lt m _ _ _ hm
  have lt2 : ∀ x ∈ p2, x.block < W.heap.size := by obtain ⟨m, hm⟩ := h2; exact DataW.trod_lt m _ _ _ hm
  have lt3 : ∀ x ∈ p3, x.block < W.heap.size := by obtain ⟨m, hm⟩ := h3; exact DataW.trod_lt m _ _ _ hm
  obtain ⟨Kd, Hs, St, hsp⟩ : ∃ (Kd : Nat → Int) (Hs : Nat → Nat) (St : Nat → ByteArray), len0 = 0 ∨ ∃ b o, a0 = some ⟨b, o, none⟩ ∧ SpecAt W b o len0 Kd Hs St := by
    obtain ⟨m, hm⟩ := h0
    exact spec_of hm
  clear hA0 hval0
  refine (walk a0 len0 cap0 a1 a2 a3 (byte_bounds w1) (u16_bounds w2) W Kd Hs St hsp).mono fun e W' ⟨he, bel⟩ => ?_
  subst he
  exact ⟨_, rfl, _, _, _, [], _, [], hW', trodAll_mk1 (shut_bool Yba.underlying4 _), (trodAll_mk4 (Below.trod laidOut (by kernel_rfl) (of_decide_eq_true (by kernel_rfl)) h0 bel lt0) (Below.trod laidOut (by kernel_rfl) (of_decide_eq_true (by kernel_rfl)) h1 bel lt1) (Below.trod laidOut (by kernel_rfl) (of_decide_eq_true (by kernel_rfl)) h2 bel lt2) (Below.trod laidOut (by kernel_rfl) (of_decide_eq_true (by kernel_rfl)) h3 bel lt3)), rfl, bel.frame _, fun h => by cases h⟩

theorem over : Rows.lawS4526CRebuildRow.holds Yba.pinned (OpenSpec.ofChange Rows.lawS4526CRebuildSpec) :=
  OpenClaim.holds_of_wide 3 Yba.f3 rfl rfl rfl rfl rfl rfl rfl ⟨rfl, rfl, rfl, rfl, rfl⟩ rfl rfl rfl rfl rfl (by kernel_rfl) Yba.func3 (by kernel_rfl)
    (of_decide_eq_true (by kernel_rfl)) (by unfold Func.isWrapper; first | (rw [if_pos (by decide +kernel)]; kernel_rfl) | (rw [if_neg (by decide +kernel)]; exact ⟨rfl, rfl⟩))
    (fun os started H enc _ => lifted os started H enc)

theorem proved : Rows.LawS4526CRebuildSaid := over
end Go.Proofs.Ybulkcosc.lawS4526CRebuild
