import Derived.Test.YbulkcomeBfPush
namespace Go.Proofs.Ybulkcome
open Go.RowKit

/-- a value kept by its place -/
def updV {α : Type} (f : Nat → α) (i : Nat) (v : α) : Nat → α := fun k => if k = i then v else f k
theorem updV_same {α : Type} (f : Nat → α) (i : Nat) (v : α) : updV f i v i = v := by simp [updV]
theorem updV_other {α : Type} (f : Nat → α) {i k : Nat} (v : α) (h : k ≠ i) : updV f i v k = f k := by simp [updV, h]

theorem JobD.fr {X : Nat → Prop} {w w' : World} {b : Nat} {d : Dat} (h : JobD w b d) (hb : Fr X w w') (hq : ¬ X b) : JobD w' b d :=
  ⟨hb.cell h.c14 hq, hb.cell h.c15 hq, hb.cell h.c16 hq, hb.cell h.c17 hq, hb.cell h.c18 hq, hb.cell h.c26 hq, hb.cell h.c27 hq, hb.cell h.c47 hq, hb.cell h.c48 hq, hb.cell h.c49 hq,
    fun j => by rw [hb.frozen (a := ⟨b, j, none⟩) (show b < _ from World.block_lt_of_cell? w ⟨b, 14, none⟩ h.c14) hq]; exact h.f j, h.z.of_block (hb.block b h.z.lt hq)⟩

/-- THE ORDER AND ITS THREE HEAPS. ρ: each block's role: 0 the order, 10 + h the array of heap h, 30 a job -/
structure Hp (ρ : Nat → Nat) (w : World) (B ob sel : Nat) (V : Nat → Value) (n : Nat → Nat) (g : Nat → Nat → Nat) : Prop where
  rob : ρ ob = 0
  hB : B ≤ w.heap.size
  key : w.cell? ⟨ob, 0, none⟩ = some (.int .i64 sel)
  hc : ∀ h, h < 3 → w.cell? ⟨ob, 1 + h, none⟩ = some (V h)
  fo : ∀ j, w.frozen? ⟨ob, j, none⟩ = false
  ho : ∀ h, h < 3 → w.ownsRow B 30 1 (V h) (n h) (ptrs (n h) (g h))
  hr : ∀ h, h < 3 → ∀ q, (V h).ownBlock = some q → ρ q = 10 + h
  jobs : ∀ h, h < 3 → ∀ k, k < n h → IsJob w (g h k) ∧ ρ (g h k) = 30

theorem Hp.lt {ρ : Nat → Nat} {w : World} {B ob sel : Nat} {V : Nat → Value} {n : Nat → Nat} {g : Nat → Nat → Nat} (h : Hp ρ w B ob sel V n g) : ob < w.heap.size := World.block_lt_of_cell? w ⟨ob, 0, none⟩ h.key

/-- whatever turns neither the order nor a heap's array, and leaves jobs jobs -/
theorem Hp.keep {ρ : Nat → Nat} {w w' : World} {B ob sel : Nat} {V : Nat → Value} {n : Nat → Nat} {g : Nat → Nat → Nat} (h : Hp ρ w B ob sel V n g) {X : Nat → Prop} (hf : Fr X w w')
    (h0 : ¬ X ob) (h1 : ∀ q j, j < 3 → ρ q = 10 + j → ¬ X q) (h2 : ∀ b, ρ b = 30 → IsJob w b → IsJob w' b) : Hp ρ w' B ob sel V n g where
  rob := h.rob
  hB := Nat.le_trans h.hB hf.size
  key := hf.cell h.key h0
  hc j hj := hf.cell (h.hc j hj) h0
  fo j := by rw [hf.frozen (a := ⟨ob, j, none⟩) h.lt h0]; exact h.fo j
  ho j hj := own_keep (h.ho j hj) fun q hq => hf.block q (own_lt (h.ho j hj) hq).1 (h1 q j hj (h.hr j hj q hq))
  hr := h.hr
  jobs j hj k hk := ⟨h2 _ (h.jobs j hj k hk).2 (h.jobs j hj k hk).1, (h.jobs j hj k hk).2⟩

/-- a job's key is turned -/
theorem Hp.keyed {ρ : Nat → Nat} {w w' : World} {B ob sel : Nat} {V : Nat → Value} {n : Nat → Nat} {g : Nat → Nat → Nat} (h : Hp ρ w B ob sel V n g) {jb : Nat} {d : Dat} (hj : ρ jb = 30) (hb : But jb w w') (hd : JobD w' jb d) : Hp ρ w' B ob sel V n g := by
  refine h.keep (Fr.of_but (X := fun k => k = jb) hb (fun _ => rfl)) ?_ ?_ ?_
  · intro e; have := h.rob; rw [e, hj] at this; omega
  · intro q j hj3 hq e; rw [e, hj] at hq; omega
  · intro b _ hjob
    by_cases e : b = jb
    · subst e; exact hd.isJob
    · exact hjob.but hb e

/-- a job is pushed onto heap j -/
theorem Hp.pushed {ρ : Nat → Nat} {w w' : World} {B ob sel : Nat} {V : Nat → Value} {n : Nat → Nat} {g : Nat → Nat → Nat} (h : Hp ρ w B ob sel V n g) {jb j : Nat} (hj : j < 3) (hjr : ρ jb = 30) (hjl : jb < w.heap.size) {q cap : Nat} {g' : Nat → Nat}
    (hc : w'.cell? ⟨ob, 1 + j, none⟩ = some (.slice (some ⟨q, 0, none⟩) (n j + 1) cap)) (ho : w'.ownsRow B 30 1 (.slice (some ⟨q, 0, none⟩) (n j + 1) cap) (n j + 1) (ptrs (n j + 1) g'))
    (hat : (V j).ownBlock = some q ∨ w.heap.size ≤ q) (hcn : ∀ x, cnt (n j + 1) g' x = cnt (n j + 1) (upd (g j) (n j) jb) x) (hjs : ∀ k, k < n j + 1 → IsJob w' (g' k))
    (hf : Fr (fun k => k = ob ∨ some k = (V j).ownBlock) w w') (hco : ∀ o, o ≠ 1 + j → w'.cell? ⟨ob, o, none⟩ = w.cell? ⟨ob, o, none⟩) (hfo : ∀ o, w'.frozen? ⟨ob, o, none⟩ = w.frozen? ⟨ob, o, none⟩) :
    ∃ ρ', (∀ b, b < w.heap.size → ρ' b = ρ b) ∧ Hp ρ' w' B ob sel (updV V j (.slice (some ⟨q, 0, none⟩) (n j + 1) cap)) (updV n j (n j + 1)) (updV g j g') := by
  have hq : ∀ b, b < w.heap.size → (if b = q then 10 + j else ρ b) = ρ b := by
    intro b hb
    split
    · rename_i e
      subst e
      rcases hat with hat | hat
      · exact (h.hr j hj _ hat).symm
      · omega
    · rfl
  -- who stands on the new heap is a job
  have hmem : ∀ k, k < n j + 1 → ρ (g' k) = 30 ∧ g' k < w.heap.size := by
    intro k hk
    have h1 : cnt (n j + 1) g' (g' k) ≠ 0 := by
      intro e
      have : ∀ m (f : Nat → Nat) i, i < m → cnt m f (f i) ≠ 0 := by
        intro m f i hi
        induction m with
        | zero => omega
        | succ m ih =>
          unfold cnt
          by_cases e2 : i = m
          · subst e2; rw [if_pos rfl]; omega
          · have := ih (by omega); omega
      exact this _ _ k hk e
    rw [hcn] at h1
    by_cases hex : ∃ i, i < n j + 1 ∧ upd (g j) (n j) jb i = g' k
    · obtain ⟨i, hi, he⟩ := hex
      rw [← he]
      unfold upd
      split
      · exact ⟨hjr, hjl⟩
      · exact ⟨(h.jobs j hj i (by omega)).2, (h.jobs j hj i (by omega)).1.lt⟩
    · exact absurd (cnt_zero (fun i hi e => hex ⟨i, hi, e⟩)) h1
  refine ⟨fun b => if b = q then 10 + j else ρ b, hq, ?_, ?_, ?_, ?_, ?_, ?_, ?_, ?_⟩
  · show (if ob = q then 10 + j else ρ ob) = 0
    rw [hq ob h.lt]; exact h.rob
  · exact Nat.le_trans h.hB hf.size
  · rw [hco 0 (by omega)]; exact h.key
  · intro i hi
    by_cases e : i = j
    · subst e; rw [updV_same]; exact hc
    · rw [updV_other _ _ e, hco (1 + i) (by omega)]; exact h.hc i hi
  · intro i; rw [hfo i]; exact h.fo i
  · intro i hi
    by_cases e : i = j
    · subst e; rw [updV_same, updV_same, updV_same]; exact ho
    · rw [updV_other _ _ e, updV_other _ _ e, updV_other _ _ e]
      refine own_keep (h.ho i hi) fun q' hq' => hf.block q' (own_lt (h.ho i hi) hq').1 ?_
      have hr' := h.hr i hi q' hq'
      rintro (e2 | e2)
      · rw [e2, h.rob] at hr'; omega
      · have := h.hr j hj q' e2.symm; omega
  · intro i hi q' hq'
    by_cases e : i = j
    · subst e
      rw [updV_same] at hq'
      injection hq' with hq'
      subst hq'
      simp
    · rw [updV_other _ _ e] at hq'
      show (if q' = q then 10 + j else ρ q') = 10 + i
      rw [hq q' (own_lt (h.ho i hi) hq').1]
      exact h.hr i hi q' hq'
  · intro i hi k hk
    by_cases e : i = j
    · subst e
      rw [updV_same] at hk ⊢
      refine ⟨hjs k hk, ?_⟩
      show (if g' k = q then 10 + i else ρ (g' k)) = 30
      rw [hq _ (hmem k hk).2]
      exact (hmem k hk).1
    · rw [updV_other _ _ e] at hk ⊢
      have hj0 := h.jobs i hi k hk
      refine ⟨hj0.1.fr hf ?_, ?_⟩
      · rintro (e2 | e2)
        · have := h.rob; rw [← e2, hj0.2] at this; omega
        · have := h.hr j hj _ e2.symm; omega
      · show (if g i k = q then 10 + j else ρ (g i k)) = 30
        rw [hq _ hj0.1.lt]
        exact hj0.2

set_option maxHeartbeats 1000000 in
theorem file_any (ρ : Nat → Nat) (B ob sel jb : Nat) (V : Nat → Value) (n : Nat → Nat) (g : Nat → Nat → Nat) (d : Dat) (w : World) (hs : sel < 4) (hh : Hp ρ w B ob sel V n g) (hj : JobD w jb d) (hr : ρ jb = 30) (hn : ∀ h, h < 3 → n h ≤ 500) :
    Calls Yba.prog 15 #[.pointer (some ⟨ob, 0, none⟩), .pointer (some ⟨jb, 0, none⟩)] w fun e w' => e = .returned (.tuple #[]) ∧
      ∃ ρ' v' g' r, (∀ b, b < w.heap.size → ρ' b = ρ b) ∧ Hp ρ' w' B ob sel (updV V (whereOf d) v') (updV n (whereOf d) (n (whereOf d) + 1)) (updV g (whereOf d) g') ∧
        (∀ x, cnt (n (whereOf d) + 1) g' x = cnt (n (whereOf d) + 1) (upd (g (whereOf d)) (n (whereOf d)) jb) x) ∧ JobD w' jb (rekey sel d r) ∧
        Fr (fun k => k = ob ∨ k = jb ∨ ρ k = 10 + whereOf d) w w' ∧ (∀ o, 4 ≤ o → w'.cell? ⟨ob, o, none⟩ = w.cell? ⟨ob, o, none⟩) := by
  have hw3 : whereOf d < 3 := by unfold whereOf; split; (split; omega; split <;> omega); omega
  have HH := hide hh
  have HJ := hide hj
  have HN := hide hn
  have HKEY := hide (keyed_any ob jb sel hs d w hj hh.key)
  clear hh hj hn
  go_enter Yba.func15, Yba.ntmps15
  go_wp2_with fail
  refine HKEY.out.mono ?_
  rintro e w1 ⟨rfl, hbu, r, hj1⟩
  have hh1 := HH.out.keyed hr hbu hj1
  have hwh : whereOf (rekey sel d r) = whereOf d := by unfold rekey; split <;> rfl
  have hheap := heapOf_any ob jb _ w1 hj1
  rw [hwh] at hheap
  have HHEAP := hide hheap
  have HH1 := hide hh1
  have HJ1 := hide hj1
  have HBU := hide hbu
  clear hheap hh1 hj1 hbu hwh
  go_wp2_with fail
  refine HHEAP.out.mono ?_
  rintro e w2 ⟨rfl, rfl⟩
  have hov : some ob ≠ (V (whereOf d)).ownBlock := by
    intro e
    have := HH1.out.hr _ hw3 ob e.symm
    rw [HH1.out.rob] at this
    omega
  have hpush := push_any B ob (1 + whereOf d) jb (n (whereOf d)) (g (whereOf d)) (V (whereOf d)) w2 (HH1.out.hc _ hw3) (HH1.out.fo _) (HN.out _ hw3) HH1.out.hB (HH1.out.ho _ hw3)
    (fun k hk => by
      have hk1 := HH1.out.jobs _ hw3 k hk
      refine ⟨hk1.1, ?_, ?_⟩
      · intro e; have := HH1.out.hr _ hw3 _ e.symm; omega
      · intro e; rw [e, HH1.out.rob] at hk1; exact absurd hk1.2 (by decide))
    HJ1.out.isJob (by intro e; have := HH1.out.hr _ hw3 _ e.symm; omega) (by intro e; rw [e, HH1.out.rob] at hr; exact absurd hr (by decide)) hov
  have HPUSH := hide hpush
  clear hpush
  go_wp2_with fail
  refine HPUSH.out.mono ?_
  rintro e w3 ⟨rfl, q, cap, g', c1, c2, c3, c4, c5, c6, c7, c8⟩
  obtain ⟨ρ', hρ, hp'⟩ := HH1.out.pushed hw3 hr HJ1.out.lt c1 c2 c3 c4 c5 c6 c7 c8
  have hjo : ob ≠ jb := by intro e; rw [← e, HH1.out.rob] at hr; exact absurd hr (by decide)
  have hjd : JobD w3 jb (rekey sel d r) := HJ1.out.fr c6 (by
    rintro (e | e)
    · exact hjo e.symm
    · have := HH1.out.hr _ hw3 _ e.symm; omega)
  have hfr : Fr (fun k => k = ob ∨ k = jb ∨ ρ k = 10 + whereOf d) w w3 :=
    (Fr.of_but HBU.out (fun _ => Or.inr (Or.inl rfl))).trans (c6.mono fun k _ hk => by
      rcases hk with hk | hk
      · exact Or.inl hk
      · exact Or.inr (Or.inr (HH1.out.hr _ hw3 _ hk.symm)))
  have hlob : ob < w.heap.size := HH.out.lt
  have hcells : ∀ o, 4 ≤ o → w3.cell? ⟨ob, o, none⟩ = w.cell? ⟨ob, o, none⟩ := fun o ho => (c7 o (by omega)).trans (HBU.out.cellAll hlob hjo o)
  have hρ2 : ∀ b, b < w.heap.size → ρ' b = ρ b := fun b hb => hρ b (Nat.lt_of_lt_of_le hb HBU.out.size)
  have HFIN := hide (And.intro hρ2 (And.intro hp' (And.intro c4 (And.intro hjd (And.intro hfr hcells)))))
  clear hρ2 hp' c1 c2 c3 c4 c5 c6 c7 c8 hρ hjd hfr hcells
  go_wp2
  go_end0
  obtain ⟨h1, h2, h3, h4, h5, h6⟩ := HFIN.out
  exact ⟨rfl, ρ', _, g', r, h1, h2, h3, h4, h5, h6⟩
end Go.Proofs.Ybulkcome
