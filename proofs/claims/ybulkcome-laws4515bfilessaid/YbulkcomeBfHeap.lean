import Derived.Test.YbulkcomeBfKeyed
namespace Go.Proofs.Ybulkcome
open Go.RowKit
attribute [local go_sem] bf_store_float

def whereOf (d : Dat) : Nat := if gtB d.mh 0 then (if d.fol then 0 else if gtB d.sh 0 then 1 else 0) else 2

set_option maxHeartbeats 400000 in
theorem hasMap_any (jb : Nat) (d : Dat) (w : World) (h : JobD w jb d) :
    Calls Yba.prog 23 #[.pointer (some ⟨jb, 0, none⟩)] w fun e w' => e = .returned (.bool (gtB d.mh 0)) ∧ w' = w := by
  have p0 := h.c15
  clear h
  unfold gtB
  go_enter Yba.func23, Yba.ntmps23
  go_wp2
  go_ret
  exact ⟨rfl, rfl⟩

set_option maxHeartbeats 400000 in
theorem hasBacklog_any (jb : Nat) (d : Dat) (w : World) (h : JobD w jb d) :
    Calls Yba.prog 24 #[.pointer (some ⟨jb, 0, none⟩)] w fun e w' => e = .returned (.bool (!d.fol && gtB d.sh 0)) ∧ w' = w := by
  have p0 := h.c17
  have p1 := h.c27
  clear h
  obtain ⟨mh, ml, sh, sl, at_, kh, kl, ks, fol, seq⟩ := d
  simp only at p0 p1
  cases fol
  · simp only [Bool.not_false, Bool.true_and]
    unfold gtB
    go_enter Yba.func24, Yba.ntmps24
    go_wp2
    go_ret
    exact ⟨rfl, rfl⟩
  · simp only [Bool.not_true, Bool.false_and]
    go_enter Yba.func24, Yba.ntmps24
    go_wp2
    go_ret
    exact ⟨rfl, rfl⟩

set_option maxHeartbeats 400000 in
theorem heapOf_any (ob jb : Nat) (d : Dat) (w : World) (h : JobD w jb d) :
    Calls Yba.prog 19 #[.pointer (some ⟨ob, 0, none⟩), .pointer (some ⟨jb, 0, none⟩)] w fun e w' => e = .returned (.pointer (some ⟨ob, 1 + whereOf d, none⟩)) ∧ w' = w := by
  have H1 := hide (hasMap_any jb d w h)
  have H2 := hide (hasBacklog_any jb d w h)
  clear h
  cases hm : gtB d.mh 0
  · rw [show whereOf d = 2 from by simp [whereOf, hm]]
    rw [hm] at H1
    go_enter Yba.func19, Yba.ntmps19
    go_wp2_with (first | (go_at_call 23; refine H1.out.mono ?_; rintro e w1 ⟨rfl, rfl⟩))
    go_ret
    exact ⟨rfl, rfl⟩
  · cases hb : (!d.fol && gtB d.sh 0)
    · rw [show whereOf d = 0 from by
        unfold whereOf; rw [if_pos hm]; cases hf : d.fol <;> simp_all]
      rw [hm] at H1
      rw [hb] at H2
      go_enter Yba.func19, Yba.ntmps19
      go_wp2_with (first | (go_at_call 23; refine H1.out.mono ?_; rintro e w1 ⟨rfl, rfl⟩) | (go_at_call 24; refine H2.out.mono ?_; rintro e w1 ⟨rfl, rfl⟩))
      go_ret
      exact ⟨rfl, rfl⟩
    · rw [show whereOf d = 1 from by
        unfold whereOf; rw [if_pos hm]; cases hf : d.fol <;> simp_all]
      rw [hm] at H1
      rw [hb] at H2
      go_enter Yba.func19, Yba.ntmps19
      go_wp2_with (first | (go_at_call 23; refine H1.out.mono ?_; rintro e w1 ⟨rfl, rfl⟩) | (go_at_call 24; refine H2.out.mono ?_; rintro e w1 ⟨rfl, rfl⟩))
      go_ret
      exact ⟨rfl, rfl⟩
end Go.Proofs.Ybulkcome
