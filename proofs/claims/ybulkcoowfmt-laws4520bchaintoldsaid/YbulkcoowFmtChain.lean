import Derived.Test.YbulkcoowFmtRun
import Derived.Laws.MakeOwn
namespace Go.Proofs.YbulkcoowFmt
open Go.RowKit
attribute [local go_sem] ch_store_float ch_store_func

/-- the cells of a slice that is made -/
def mcs (z : Value) (n : Nat) : Array Value := madeCells z.cells n
theorem mcs_size (z : Value) (n : Nat) : (mcs z n).size = n := size_madeCells _ _
theorem mcs_get (z : Value) (n i : Nat) (h : i < n) : ∃ v, (mcs z n)[i]? = some v := ⟨_, Array.getElem?_eq_getElem (by rw [mcs_size]; exact h)⟩

theorem info59 : (Ybaf.prog.info? 59).map (fun i => (i.zero, i.size, i.bytes)) = some (some .nilFunc, 1, 8) := by kernel_rfl
theorem make65 (n : Nat) (hn : n ≤ 1024) (w : World) : (Instr.makeSlice 65 (.int .i64 (n : Int)) (.int .i64 (n : Int))).run Ybaf.prog w = .ok (.slice (some ⟨w.heap.size, 0, none⟩) n n) (w.alloc (.cells (mcs .nilFunc n) 59)) := by
  obtain ⟨i59, hi, hz⟩ := Option.map_eq_some_iff.1 info59
  simp only [Prod.mk.injEq] at hz
  obtain ⟨h1, h2, h3⟩ := hz
  have := run_make (P := Ybaf.prog) w 65 59 i59 .nilFunc Ybaf.underlying65 hi h1 .i64 .i64 n n (by omega) (Int.le_refl _) (by rw [h3]; omega) (by omega)
  rw [h2, Nat.mul_one] at this
  unfold mcs
  simpa using this

/-- how far the compiling has come -/
structure ChI (w : World) (cq oq ol oc n : Nat) (z : Nat → Int) (k : Nat) (wr : World) : Prop where
  bl : Below w.heap.size w wr
  c : wr.cell? ⟨w.heap.size, 0, none⟩ = some (.pointer (some ⟨cq, 0, none⟩))
  o : wr.cell? ⟨w.heap.size + 1, 0, none⟩ = some (.slice (some ⟨oq, 0, none⟩) ol oc)
  f : wr.cell? ⟨w.heap.size + 1 + 1 + 1, 0, none⟩ = some (.slice (some ⟨w.heap.size + 1 + 1, 0, none⟩) n n)
  r : ∀ j, j < n → ∃ v, wr.cell? ⟨w.heap.size + 1 + 1, j, none⟩ = some v
  fr : ∀ j, wr.frozen? ⟨w.heap.size + 1 + 1, j, none⟩ = false
  d : ∀ j, j < k → ∃ fv, wr.cell? ⟨w.heap.size + 1 + 1, j, none⟩ = some fv ∧ Fv (w.heap.size + 1 + 1) wr fv (z j)

theorem ChI.start (w : World) (cq oq ol oc n : Nat) (z : Nat → Int) : ChI w cq oq ol oc n z 0
    ((((w.alloc (.cells #[.pointer (some ⟨cq, 0, none⟩)] 37)).alloc (.cells #[.slice (some ⟨oq, 0, none⟩) ol oc] 29)).alloc (.cells (mcs .nilFunc n) 59)).alloc (.cells #[.slice (some ⟨w.heap.size + 1 + 1, 0, none⟩) n n] 65)) := by
  refine ⟨((((Below.refl _ _).alloc (Nat.le_refl _) _).alloc (by simp) _).alloc (by simp; omega) _).alloc (by simp; omega) _, by go_simp, by go_simp, by go_simp, fun j hj => ?_, fun j => by go_simp, fun j hj => by omega⟩
  obtain ⟨v, hv⟩ := mcs_get .nilFunc n j hj
  exact ⟨v, by go_simp⟩

/-- one more function -/
theorem ChI.next {w wr w2 : World} {cq oq ol oc n k : Nat} {z : Nat → Int} (h : ChI w cq oq ol oc n z k wr) (hb : Below wr.heap.size wr w2) {fv : Value} (hf : Fv (w.heap.size + 1 + 1) w2 fv (z k)) (hk : k < n) :
    ChI w cq oq ol oc n z (k + 1) (w2.setCell ⟨w.heap.size + 1 + 1, k, none⟩ fv) := by
  have hq : ∀ b o v, b ≠ w.heap.size + 1 + 1 → w2.cell? ⟨b, o, none⟩ = some v → (w2.setCell ⟨w.heap.size + 1 + 1, k, none⟩ fv).cell? ⟨b, o, none⟩ = some v := fun b o v hne hc => by
    rw [World.cell?_of_block (w := w2) (a := ⟨b, o, none⟩) (Below.heap_setCell _ _ _ _ hne)]; exact hc
  have hs := h.bl.size
  have hj : ∀ j, j ≠ k → (w2.setCell ⟨w.heap.size + 1 + 1, k, none⟩ fv).cell? ⟨w.heap.size + 1 + 1, j, none⟩ = w2.cell? ⟨w.heap.size + 1 + 1, j, none⟩ := fun j hj => World.cell?_setCell_other _ _ _ _ (by intro e; injection e with _ e; exact hj e.symm)
  obtain ⟨u, hu⟩ := h.r k hk
  have hsame : (w2.setCell ⟨w.heap.size + 1 + 1, k, none⟩ fv).cell? ⟨w.heap.size + 1 + 1, k, none⟩ = some fv := World.cell?_setCell_same _ _ _ (bcellOf hb hu)
  refine ⟨(h.bl.trans (hb.mono hs)).setCell (by simp; omega) _, hq _ _ _ (by omega) (bcellOf hb h.c), hq _ _ _ (by omega) (bcellOf hb h.o), hq _ _ _ (by omega) (bcellOf hb h.f), fun j hjn => ?_, fun j => ?_, fun j hjk => ?_⟩
  · by_cases e : j = k
    · subst e; exact ⟨fv, hsame⟩
    · obtain ⟨v, hv⟩ := h.r j hjn
      exact ⟨v, by rw [hj j e]; exact bcellOf hb hv⟩
  · rw [World.frozen?_setCell, hb.frozen (p := ⟨w.heap.size + 1 + 1, j, none⟩) (show w.heap.size + 1 + 1 < wr.heap.size from World.block_lt_of_cell? wr ⟨_, k, _⟩ hu)]; exact h.fr j
  · by_cases e : j = k
    · subst e; exact ⟨fv, hsame, hf.set _ _⟩
    · obtain ⟨v, hv, hfv⟩ := h.d j (by omega)
      exact ⟨v, by rw [hj j e]; exact bcellOf hb hv, (hfv.below hb).set _ _⟩

set_option maxRecDepth 100000 in
set_option maxHeartbeats 2000000 in
theorem chain_any (cq mb clock aq n ac oq ol oc : Nat) (es : Array MapEntry) (T : Nat → Nat) (z : Nat → Int) (w : World) (hn : 1 ≤ n) (hn2 : n ≤ 1024) (hc : Cmp w cq mb clock es) (ht : ∀ i, i < n → w.cell? ⟨aq, i, none⟩ = some (pt (T i)) ∧ Tm w es (T i) (z i)) :
    Calls Ybaf.prog 8 #[pt cq, .slice (some ⟨aq, 0, none⟩) n ac, .slice (some ⟨oq, 0, none⟩) ol oc] w fun e w' => ∃ fb opb cb fq fc, e = .returned (.func (.func 11) #[] #[pt fb, pt opb, pt cb]) ∧ Below w.heap.size w w' ∧ w'.cell? ⟨fb, 0, none⟩ = some (.slice (some ⟨fq, 0, none⟩) n fc) ∧ w'.cell? ⟨opb, 0, none⟩ = some (.slice (some ⟨oq, 0, none⟩) ol oc) ∧ w'.cell? ⟨cb, 0, none⟩ = some (pt cq) ∧ FnsAt w' fq n z := by
  have hmf := mkf
  have hmk := make65 n hn2
  have HC := hide hc
  have HT := hide ht
  clear hc ht
  unfold pt
  go_enter Ybaf.func8, Ybaf.ntmps8
  go_wp2_with fail
  go_loopw [15, 8, 9] (fun i _ _ wr => ∃ k : Nat, k ≤ n ∧ i = .int .i64 k ∧ ChI w cq oq ol oc n z k wr) (fun i _ _ _ => n - (intOf i).toNat)
  case atStart => exact ⟨0, by omega, rfl, ChI.start w cq oq ol oc n z⟩
  case round =>
    obtain ⟨k, hk, rfl, hI⟩ := hrel
    by_cases hlt : k < n
    · obtain ⟨ha, hT⟩ := HT.out k hlt
      have q0 := bcellOf hI.bl ha
      have q1 := hI.c
      have q2 := hI.f
      obtain ⟨u, hu⟩ := hI.r k hlt
      have hfz := hI.fr k
      have hlq : w.heap.size + 1 + 1 < wr.heap.size := World.block_lt_of_cell? wr _ hu
      have htq : T k ≠ w.heap.size + 1 + 1 := by
        have : T k < w.heap.size := by
          rcases hT with h | ⟨_, _, h, _⟩ | ⟨_, _, _, _, _, _, _, _, h, _⟩
          · exact World.block_lt_of_cell? w ⟨T k, 0, none⟩ h.1
          · exact World.block_lt_of_cell? w ⟨T k, 0, none⟩ h
          · exact World.block_lt_of_cell? w ⟨T k, 0, none⟩ h
        omega
      have hIA := int_any (w.heap.size + 1 + 1) cq mb clock (T k) es (z k) wr.drew ((HC.out.below hI.bl).below (Below.refl _ _).drew) ((hT.below hI.bl).below (Below.refl _ _).drew) hlq htq
      have HIA := hide hIA
      have HI := hide hI
      have HLQ := hide hlq
      clear hIA hI hT ha hlq
      unfold pt at q0
      have i0 : (0 : Int) ≤ (k : Int) := by omega
      have i1 : (k : Int) < (n : Int) := by omega
      go_wp2_with fail
      go_region_held (fun w' => w'.cell? ⟨w.heap.size, 0, none⟩ = some (.pointer (some ⟨cq, 0, none⟩)) ∧ w'.cell? ⟨w.heap.size + 1 + 1 + 1, 0, none⟩ = some (.slice (some ⟨w.heap.size + 1 + 1, 0, none⟩) n n))
        (first | (go_simp; done) | (refine ⟨?_, ?_⟩ <;> assumption))
        (first | (go_at_call 10; refine HIA.out.mono ?_; rintro e w2 ⟨fv, rfl, hbe, hfv, f, c, rfl⟩
                  have m0 : w2.cell? ⟨w.heap.size, 0, none⟩ = some (.pointer (some ⟨cq, 0, none⟩)) := bcellOf hbe q1
                  have m1 : w2.cell? ⟨w.heap.size + 1 + 1 + 1, 0, none⟩ = some (.slice (some ⟨w.heap.size + 1 + 1, 0, none⟩) n n) := bcellOf hbe q2
                  have m2 : w2.cell? ⟨w.heap.size + 1 + 1, k, none⟩ = some u := bcellOf hbe hu
                  have m3 : w2.frozen? ⟨w.heap.size + 1 + 1, k, none⟩ = false := (hbe.frozen (p := ⟨w.heap.size + 1 + 1, k, none⟩) HLQ.out).trans hfz
                  have HBE := hide hbe
                  have HFV := hide hfv
                  clear hbe hfv))
      go_wp2_with fail
      go_roundw
      case rel => exact ⟨k + 1, by omega, by go_num, HI.out.next ((Below.refl _ _).drew.trans HBE.out) HFV.out hlt⟩
      case measure =>
        simp [intOf]
        omega
    · have hkn : k = n := by omega
      subst hkn
      go_wp2
      go_ret
      exact ⟨_, _, _, _, _, rfl, hI.bl, hI.f, hI.o, hI.c, fun i hi => hI.d i hi⟩
end Go.Proofs.YbulkcoowFmt
