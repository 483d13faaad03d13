import Derived.Test.YbulkcoowFmtInt
import Derived.Deep.DeepCutAuto
namespace Go.Proofs.YbulkcoowFmt
open Go.RowKit
attribute [local go_sem] ch_store_float ch_store_func

/-- one step of the fold: kinds 0 +, 1 -, else * -/
def op1 (k : Nat) (a b : Int) : Int := if k = 0 then a + b else if k = 1 then a - b else a * b
def kindB (k : Nat) : ByteArray := ⟨if k = 0 then #[43] else if k = 1 then #[45] else if k = 2 then #[42] else #[47]⟩
/-- the fold over the first i steps -/
def fold (z : Nat → Int) (k : Nat → Nat) : Nat → Int
  | 0 => z 0
  | i + 1 => op1 (k i) (fold z k i) (z (i + 1))

/-- the operators' row -/
def OpsAt (w : World) (oq len : Nat) (K : Nat → Nat) : Prop := ∀ i, i < len → K i < 4 ∧ ∃ l m, w.cell? ⟨oq, i * 6, none⟩ = some (.string (kindB (K i))) ∧ w.cell? ⟨oq, i * 6 + 1, none⟩ = some (.string ByteArray.empty) ∧ w.cell? ⟨oq, i * 6 + 2, none⟩ = some (.int .i64 0) ∧
  w.cell? ⟨oq, i * 6 + 3, none⟩ = some (.float .f64 0) ∧ w.cell? ⟨oq, i * 6 + 4, none⟩ = some (.int .i64 l) ∧ w.cell? ⟨oq, i * 6 + 5, none⟩ = some (.int .i64 m)
/-- the functions' row -/
def FnsAt (w : World) (fq len : Nat) (z : Nat → Int) : Prop := ∀ i, i < len → ∃ fv, w.cell? ⟨fq, i, none⟩ = some fv ∧ Fv fq w fv (z i)

theorem OpsAt.below {w w' : World} {oq len : Nat} {K : Nat → Nat} (h : OpsAt w oq len K) (hb : Below w.heap.size w w') : OpsAt w' oq len K := fun i hi => by
  obtain ⟨h0, l, m, h1, h2, h3, h4, h5, h6⟩ := h i hi
  exact ⟨h0, l, m, bcellOf hb h1, bcellOf hb h2, bcellOf hb h3, bcellOf hb h4, bcellOf hb h5, bcellOf hb h6⟩
theorem FnsAt.below {w w' : World} {fq len : Nat} {z : Nat → Int} (h : FnsAt w fq len z) (hb : Below w.heap.size w w') : FnsAt w' fq len z := fun i hi => by
  obtain ⟨fv, h1, h2⟩ := h i hi
  exact ⟨fv, bcellOf hb h1, h2.below hb⟩

set_option maxRecDepth 100000 in
set_option maxHeartbeats 2000000 in
theorem run_any (fb opb cb fq oq n fc oc : Nat) (s cv : Value) (z : Nat → Int) (K : Nat → Nat) (w : World) (hn : 1 ≤ n) (hn2 : n ≤ 1024) (hz : ∀ i, i < n → R (z i)) (hf : ∀ i, i < n → R (fold z K i))
    (h1 : w.cell? ⟨fb, 0, none⟩ = some (.slice (some ⟨fq, 0, none⟩) n fc)) (h2 : w.cell? ⟨opb, 0, none⟩ = some (.slice (some ⟨oq, 0, none⟩) (n - 1) oc)) (h3 : w.cell? ⟨cb, 0, none⟩ = some cv)
    (hfn : FnsAt w fq n z) (hop : OpsAt w oq (n - 1) K) :
    Calls Ybaf.prog 11 #[s, pt fb, pt opb, pt cb] w fun e w' => e = .returned (.int .i64 (fold z K (n - 1))) ∧ Below w.heap.size w w' := by
  obtain ⟨fv0, c0, hv0⟩ := hfn 0 (by omega)
  obtain ⟨f0, a0, rfl, he0, hc0⟩ := fv_calls hv0 s
  have HC0 := hide hc0
  have HFN := hide hfn
  have HOP := hide hop
  have HZ := hide hz
  have HF := hide hf
  have HV0 := hide hv0
  clear hfn hop hz hf hv0 hc0
  unfold pt
  go_enter Ybaf.func11, Ybaf.ntmps11
  go_wp2_with fail
  refine HC0.out.mono ?_
  rintro e w1 ⟨rfl, hb1⟩
  have g2 := bcellOf hb1 h2
  have HB1 := hide hb1
  clear hb1
  go_wp2_with fail
  go_loopw [17, 6, 7, 8, 9] (fun i v _ _ _ wr => ∃ k : Nat, k ≤ n - 1 ∧ i = .int .i64 k ∧ v = .int .i64 (fold z K k) ∧ Below w.heap.size w wr) (fun i _ _ _ _ _ => n - 1 - (intOf i).toNat)
  case atStart => exact ⟨0, by omega, rfl, rfl, HB1.out⟩
  case round =>
    obtain ⟨k, hk, rfl, rfl, hbr⟩ := hrel
    clear g2
    by_cases hlt : k < n - 1
    · obtain ⟨k4, l, m, o0, o1, o2, o3, o4, o5⟩ := (HOP.out.below hbr) k hlt
      obtain ⟨fv, f1, hv⟩ := (HFN.out.below hbr) (k + 1) (by omega)
      have hbA : Below wr.heap.size wr (wr.alloc (.cells #[.string (kindB (K k)), .string ByteArray.empty, .int .i64 0, .float .f64 0, .int .i64 l, .int .i64 m] 36)) := (Below.refl _ _).alloc (Nat.le_refl _) _
      obtain ⟨fi, ai, rfl, hei, hci⟩ := fv_calls (hv.below hbA) s
      have r1 := bcellOf hbr h1
      have r2 := bcellOf hbr h2
      have r3 := bcellOf hbr h3
      have HCI := hide hci
      have HBR := hide hbr
      have l1 : fb < wr.heap.size := World.block_lt_of_cell? wr _ r1
      have l2 : fq < wr.heap.size := World.block_lt_of_cell? wr _ f1
      have l3 : cb < wr.heap.size := World.block_lt_of_cell? wr _ r3
      clear hci hbr hv hbA
      go_wp2_with fail
      refine HCI.out.mono ?_
      rintro e w2 ⟨rfl, hb2⟩
      have p0 : w2.cell? ⟨wr.heap.size, 0, none⟩ = some (.string (kindB (K k))) := bcellOf hb2 (by go_simp)
      have p4 : w2.cell? ⟨wr.heap.size, 4, none⟩ = some (.int .i64 l) := bcellOf hb2 (by go_simp)
      have p5 : w2.cell? ⟨wr.heap.size, 5, none⟩ = some (.int .i64 m) := bcellOf hb2 (by go_simp)
      have p3 : w2.cell? ⟨cb, 0, none⟩ = some cv := bcellOf hb2 (by go_simp)
      have HB2 := hide (HBR.out.trans (((Below.refl _ _).alloc (Nat.le_refl _) _ : Below wr.heap.size wr _).mono HBR.out.size |>.trans (hb2.mono (by have := HBR.out.size; simp; omega))))
      clear hb2 r1 r2 r3 o0 o1 o2 o3 o4 o5 f1 hei HCI
      have hr0 := HF.out k (by omega)
      have hr1 := HZ.out (k + 1) (by omega)
      have hr2 := HF.out (k + 1) (by omega)
      by_cases hk0 : K k = 0
      · have hkb : kindB (K k) = ⟨#[43]⟩ := by rw [hk0]; rfl
        rw [hkb] at p0
        have hstep : fold z K (k + 1) = fold z K k + z (k + 1) := by show op1 (K k) _ _ = _; simp [op1, hk0]
        rw [hstep] at hr2
        have HA := hide (add_any cv (fold z K k) (z (k + 1)) l m w2 hr0 hr1 hr2)
        have HSTEP := hide hstep
        clear hstep hr0 hr1 hr2
        generalize fold z K k = fk at HA HSTEP ⊢
        generalize z (k + 1) = zk at HA HSTEP ⊢
        go_wp2_with fail
        refine HA.out.mono ?_
        rintro e w3 ⟨rfl, hw3⟩
        have hb3 : Below w.heap.size w w3 := by rw [hw3]; exact HB2.out.alloc HB2.out.size _
        have HB3 := hide hb3
        clear hb3 hw3
        go_wp2_with fail
        go_roundw
        case rel => exact ⟨k + 1, by omega, by go_num, by rw [HSTEP.out], HB3.out⟩
        case measure =>
          simp [intOf]
          omega
      · by_cases hk1 : K k = 1
        · have hkb : kindB (K k) = ⟨#[45]⟩ := by rw [hk1]; rfl
          rw [hkb] at p0
          have hstep : fold z K (k + 1) = fold z K k - z (k + 1) := by show op1 (K k) _ _ = _; simp [op1, hk1]
          rw [hstep] at hr2
          have HA := hide (sub_any cv (fold z K k) (z (k + 1)) l m w2 hr0 hr1 hr2)
          have HSTEP := hide hstep
          clear hstep hr0 hr1 hr2
          generalize fold z K k = fk at HA HSTEP ⊢
          generalize z (k + 1) = zk at HA HSTEP ⊢
          go_wp2_with fail
          refine HA.out.mono ?_
          rintro e w3 ⟨rfl, hw3⟩
          have hb3 : Below w.heap.size w w3 := by rw [hw3]; exact HB2.out.alloc HB2.out.size _
          have HB3 := hide hb3
          clear hb3 hw3
          go_wp2_with fail
          go_roundw
          case rel => exact ⟨k + 1, by omega, by go_num, by rw [HSTEP.out], HB3.out⟩
          case measure =>
            simp [intOf]
            omega
        · rcases (by omega : K k = 2 ∨ K k = 3) with hk2 | hk2
          all_goals
            have hkb : kindB (K k) = kindB (K k) := rfl
            conv at hkb => rhs; rw [hk2]
            unfold kindB at hkb p0
            rw [hkb] at p0
            simp at p0
            have hstep : fold z K (k + 1) = fold z K k * z (k + 1) := by show op1 (K k) _ _ = _; simp [op1, hk0, hk1]
            rw [hstep] at hr2
            have HA := hide (mul_any cv (fold z K k) (z (k + 1)) l m w2 hr0 hr1 hr2)
            have HSTEP := hide hstep
            clear hstep hr0 hr1 hr2
            generalize fold z K k = fk at HA HSTEP ⊢
            generalize z (k + 1) = zk at HA HSTEP ⊢
            go_wp2_with fail
            refine HA.out.mono ?_
            rintro e w3 ⟨rfl, hw3⟩
            have hb3 : Below w.heap.size w w3 := by rw [hw3]; exact HB2.out.alloc HB2.out.size _
            have HB3 := hide hb3
            clear hb3 hw3
            go_wp2_with fail
            go_roundw
            case rel => exact ⟨k + 1, by omega, by go_num, by rw [HSTEP.out], HB3.out⟩
            case measure =>
              simp [intOf]
              omega
    · have hkn : k = n - 1 := by omega
      subst hkn
      go_wp2
      go_ret
      exact ⟨rfl, hbr⟩
end Go.Proofs.YbulkcoowFmt
