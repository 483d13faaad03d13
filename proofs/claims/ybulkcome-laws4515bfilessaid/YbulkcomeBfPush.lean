import Derived.Test.YbulkcomeBfHeap
namespace Go.Proofs.Ybulkcome
open Go.RowKit
attribute [local go_sem] bf_store_float

def ptrs (n : Nat) (g : Nat → Nat) : List Value := (List.range n).map fun k => ptr (g k)

theorem ptrs_length (n : Nat) (g : Nat → Nat) : (ptrs n g).length = n := by simp [ptrs]
theorem ptrs_get (n : Nat) (g : Nat → Nat) (k : Nat) (h : k < n) : (ptrs n g)[k]? = some (ptr (g k)) := by simp [ptrs, h]
theorem ptrs_snoc (n : Nat) (g : Nat → Nat) (b : Nat) : ptrs n g ++ [ptr b] = ptrs (n + 1) (upd g n b) := by
  apply List.ext_getElem?
  intro k
  rcases Nat.lt_trichotomy k n with h | h | h
  · rw [List.getElem?_append_left (by rw [ptrs_length]; exact h), ptrs_get n g k h, ptrs_get _ _ k (by omega)]
    unfold upd
    rw [if_neg (by omega)]
  · subst h
    rw [List.getElem?_append_right (by rw [ptrs_length]; exact Nat.le_refl _), ptrs_length, ptrs_get _ _ k (by omega)]
    simp [upd]
  · rw [List.getElem?_eq_none (by simp [ptrs_length]; omega), List.getElem?_eq_none (by rw [ptrs_length]; omega)]

theorem info30 : (Yba.prog.info? 30).map (fun i => (i.zero, i.size, i.bytes)) = some (some (.pointer none), 1, 8) := by kernel_rfl

/-- the row behind a value that owns pointers to jobs -/
theorem row_of_own {w : World} {B q n cap : Nat} {g : Nat → Nat} (h : w.ownsRow B 30 1 (.slice (some ⟨q, 0, none⟩) n cap) n (ptrs n g)) (hj : ∀ k, k < n → IsJob w (g k) ∧ g k ≠ q) : Row w q cap n g ∧ n ≤ cap ∧ cap ≤ maxLen ∧ B ≤ q := by
  rcases h.2 with ⟨h0, _⟩ | ⟨q', cap', cur, hv, hb, hg, h1, h2, h3, h4⟩
  · cases h0
  · injection hv with e1 e2 e3
    injection e1 with e1
    injection e1 with e1
    subst e1 e3
    refine ⟨⟨⟨cur, hg, by omega, fun k hk => ?_⟩, hj⟩, h1, h2, hb⟩
    have := congrArg (·[k]?) h4
    simp only [Nat.mul_one] at this
    rw [ptrs_get n g k hk, List.getElem?_take, if_pos hk] at this
    simpa using this

theorem own_of_row {w : World} {B q n cap : Nat} {g : Nat → Nat} (h : Row w q cap n g) (h1 : n ≤ cap) (h2 : cap ≤ maxLen) (hb : B ≤ q) : w.ownsRow B 30 1 (.slice (some ⟨q, 0, none⟩) n cap) n (ptrs n g) := by
  obtain ⟨cur, hg, hs, hc⟩ := h.h
  refine ⟨by rw [ptrs_length]; omega, Or.inr ⟨q, cap, cur, rfl, hb, hg, h1, h2, by omega, ?_⟩⟩
  apply List.ext_getElem?
  intro k
  rw [List.getElem?_take, Nat.mul_one]
  by_cases hk : k < n
  · rw [if_pos hk, ptrs_get n g k hk]
    simpa using hc k hk
  · rw [if_neg hk, List.getElem?_eq_none (by rw [ptrs_length]; omega)]

/-- w' is w but for the blocks in X, and new blocks -/
structure Fr (X : Nat → Prop) (w w' : World) : Prop where
  os : w'.os = w.os
  tape : w'.tape = w.tape
  output : w'.output = w.output
  size : w.heap.size ≤ w'.heap.size
  block : ∀ k, k < w.heap.size → ¬ X k → w'.heap[k]? = w.heap[k]?

theorem Fr.refl (X : Nat → Prop) (w : World) : Fr X w w := ⟨rfl, rfl, rfl, Nat.le_refl _, fun _ _ _ => rfl⟩
theorem Fr.trans {X : Nat → Prop} {a b c : World} (h : Fr X a b) (k : Fr X b c) : Fr X a c :=
  ⟨k.os.trans h.os, k.tape.trans h.tape, k.output.trans h.output, Nat.le_trans h.size k.size, fun i hi hq => (k.block i (Nat.lt_of_lt_of_le hi h.size) hq).trans (h.block i hi hq)⟩
theorem Fr.mono {X Y : Nat → Prop} {a b : World} (h : Fr X a b) (k : ∀ i, i < a.heap.size → X i → Y i) : Fr Y a b := ⟨h.os, h.tape, h.output, h.size, fun i hi hq => h.block i hi fun hx => hq (k i hi hx)⟩
theorem Fr.of_but {q : Nat} {X : Nat → Prop} {w w' : World} (h : But q w w') (hx : q < w.heap.size → X q) : Fr X w w' := ⟨h.os, h.tape, h.output, h.size, fun k hk hn => h.block k hk fun e => hn (by subst e; exact hx hk)⟩
theorem Fr.of_below {X : Nat → Prop} {w w' : World} (h : Below w.heap.size w w') : Fr X w w' := ⟨h.os, h.tape, h.output, h.size, fun k hk _ => h.block k hk⟩
theorem Fr.trans_but {X : Nat → Prop} {q : Nat} {a b c : World} (h : Fr X a b) (k : But q b c) (hx : q < a.heap.size → X q) : Fr X a c :=
  ⟨k.os.trans h.os, k.tape.trans h.tape, k.output.trans h.output, Nat.le_trans h.size k.size, fun i hi hn => (k.block i (Nat.lt_of_lt_of_le hi h.size) (fun e => hn (by subst e; exact hx hi))).trans (h.block i hi hn)⟩
theorem Fr.cell {X : Nat → Prop} {w w' : World} (h : Fr X w w') {a : Addr} {v : Value} (hc : w.cell? a = some v) (hq : ¬ X a.block) : w'.cell? a = some v := by
  rw [World.cell?_of_block (w := w) (h.block a.block (World.block_lt_of_cell? w a hc) hq)]; exact hc
theorem Fr.frozen {X : Nat → Prop} {w w' : World} (h : Fr X w w') {a : Addr} (hl : a.block < w.heap.size) (hq : ¬ X a.block) : w'.frozen? a = w.frozen? a :=
  World.frozen?_of_block (w := w) (h.block a.block hl hq)
theorem Fr.below {X : Nat → Prop} {w w' : World} {B : Nat} (h : Fr X w w') (hB : B ≤ w.heap.size) (hx : ∀ k, X k → B ≤ k) : Below B w w' :=
  ⟨h.os, h.tape, h.output, h.size, fun k hk => h.block k (by omega) fun hX => by have := hx k hX; omega⟩
theorem IsJob.fr {X : Nat → Prop} {w w' : World} {b : Nat} (h : IsJob w b) (hb : Fr X w w') (hq : ¬ X b) : IsJob w' b := by
  obtain ⟨⟨k0, k1, k2, sq, h⟩, hz⟩ := h
  exact ⟨⟨k0, k1, k2, sq, hb.cell h.c47 hq, hb.cell h.c48 hq, hb.cell h.c49 hq, hb.cell h.c14 hq⟩, hz.of_block (hb.block b hz.lt hq)⟩

theorem own_keep {w w' : World} {B e s n : Nat} {v : Value} {xs : List Value} (h : w.ownsRow B e s v n xs) (hb : ∀ q, v.ownBlock = some q → w'.heap[q]? = w.heap[q]?) : w'.ownsRow B e s v n xs := by
  refine ⟨h.1, ?_⟩
  rcases h.2 with h0 | ⟨q, cap, cur, hv, h1, h2, h3⟩
  · exact Or.inl h0
  · exact Or.inr ⟨q, cap, cur, hv, h1, by rw [hb q (by rw [hv]; rfl)]; exact h2, h3⟩

theorem own_lt {w : World} {B e s n : Nat} {v : Value} {xs : List Value} (h : w.ownsRow B e s v n xs) {q : Nat} (hq : v.ownBlock = some q) : q < w.heap.size ∧ B ≤ q := by
  rcases h.2 with ⟨h0, _⟩ | ⟨q', cap, cur, hv, h1, h2, h3⟩
  · rw [h0] at hq; cases hq
  · rw [hv] at hq
    injection hq with hq
    subst hq
    refine ⟨?_, h1⟩
    rcases Nat.lt_or_ge q' w.heap.size with hlt | hge
    · exact hlt
    · rw [Array.getElem?_eq_none hge] at h2; cases h2

theorem own_below {w w' : World} {B e s n : Nat} {v : Value} {xs : List Value} (h : w.ownsRow B e s v n xs) (hb : Below w.heap.size w w') : w'.ownsRow B e s v n xs :=
  own_keep h fun q hq => hb.block q (own_lt h hq).1

theorem IsJob.lt {w : World} {b : Nat} (h : IsJob w b) : b < w.heap.size := by
  exact h.2.lt

theorem But.frozenAll {q : Nat} {w w' : World} (h : But q w w') {b : Nat} (hl : b < w.heap.size) (hq : b ≠ q) (o : Nat) : w'.frozen? ⟨b, o, none⟩ = w.frozen? ⟨b, o, none⟩ := h.frozen (a := ⟨b, o, none⟩) hl hq
theorem But.cellAll {q : Nat} {w w' : World} (h : But q w w') {b : Nat} (hl : b < w.heap.size) (hq : b ≠ q) (o : Nat) : w'.cell? ⟨b, o, none⟩ = w.cell? ⟨b, o, none⟩ := World.cell?_of_block (w := w) (a := ⟨b, o, none⟩) (h.block b hl hq)

set_option maxHeartbeats 1000000 in
theorem push_any (B ob c jb n : Nat) (g : Nat → Nat) (v : Value) (w : World) (hc : w.cell? ⟨ob, c, none⟩ = some v) (hf : w.frozen? ⟨ob, c, none⟩ = false) (hn : n ≤ 500) (hB : B ≤ w.heap.size)
    (ho : w.ownsRow B 30 1 v n (ptrs n g)) (hjs : ∀ k, k < n → IsJob w (g k) ∧ some (g k) ≠ v.ownBlock ∧ g k ≠ ob) (hj : IsJob w jb) (hjv : some jb ≠ v.ownBlock) (hjo : jb ≠ ob) (hov : some ob ≠ v.ownBlock) :
    Calls Yba.prog 20 #[.pointer (some ⟨ob, c, none⟩), .pointer (some ⟨jb, 0, none⟩)] w fun e w' => e = .returned (.tuple #[]) ∧
      ∃ q cap g', w'.cell? ⟨ob, c, none⟩ = some (.slice (some ⟨q, 0, none⟩) (n + 1) cap) ∧ w'.ownsRow B 30 1 (.slice (some ⟨q, 0, none⟩) (n + 1) cap) (n + 1) (ptrs (n + 1) g') ∧
        (v.ownBlock = some q ∨ w.heap.size ≤ q) ∧ (∀ x, cnt (n + 1) g' x = cnt (n + 1) (upd g n jb) x) ∧ (∀ k, k < n + 1 → IsJob w' (g' k)) ∧
        Fr (fun k => k = ob ∨ some k = v.ownBlock) w w' ∧ (∀ o, o ≠ c → w'.cell? ⟨ob, o, none⟩ = w.cell? ⟨ob, o, none⟩) ∧ (∀ o, w'.frozen? ⟨ob, o, none⟩ = w.frozen? ⟨ob, o, none⟩) := by
  obtain ⟨i30, hi30, hz⟩ := Option.map_eq_some_iff.1 info30
  simp only [Prod.mk.injEq] at hz
  obtain ⟨hz1, hz2, hz3⟩ := hz
  have HO := hide ho
  have HJS := hide hjs
  have HJ := hide hj
  clear ho hjs hj
  have HOA := hide (own_below HO.out (w' := w.alloc (.cells #[ptr jb] 30)) ((Below.refl _ _).alloc (Nat.le_refl _) _))
  have HNEW : Hid (∀ (j : Nat) (u : Value), [ptr jb][j]? = some u → (w.alloc (.cells #[ptr jb] 30)).cell? ((⟨w.heap.size, 0, none⟩ : Addr).add j) = some u) :=
    World.news_of_block (cs := #[ptr jb]) (t := 30) (fr := (0, 0)) (MapKept.heap_alloc w _).1
  have lob : ob < w.heap.size := World.block_lt_of_cell? w _ hc
  go_enter Yba.func20, Yba.ntmps20
  go_wp2_with (at_builtin; refine wpList_append_lies _ rfl (.tmp 7) (.tmp 9) 29 rfl B 30 i30 (.pointer none) 1 8 Yba.underlying29 hi30 hz1 hz2 hz3 rfl (by decide) v n (ptrs n g) rfl HOA.out ⟨w.heap.size, 0, none⟩ 1 1 [ptr jb] rfl rfl HNEW.out (by simp [ptr, Value.oneCell']) (by decide) (by unfold maxLen; omega) (by omega) (by simp; omega) _ rfl ?_; intro q cap w1 hown hgrow hat hlt
               have e1 : w1.cell? ⟨ob, c, none⟩ = some v := by rw [hgrow.cell_far ⟨ob, c, none⟩ (by simp; omega) hov]; go_simp
               have e2 : w1.frozen? ⟨ob, c, none⟩ = false := by rw [hgrow.frozen_far ⟨ob, c, none⟩ (by simp; omega) hov]; go_simp
               have HOWN := hide hown
               have HGROW := hide hgrow
               have HAT := hide hat
               clear hown hgrow hat)
  have hfr : Fr (fun k => k = ob ∨ some k = v.ownBlock) w (w1.setCell ⟨ob, c, none⟩ (.slice (some ⟨q, 0, none⟩) (n + 1) cap)) := by
    have h1 : Fr (fun k => k = ob ∨ some k = v.ownBlock) w w1 := by
      have hb : Below w.heap.size w (w.alloc (.cells #[ptr jb] 30)) := (Below.refl _ _).alloc (Nat.le_refl _) _
      refine (Fr.of_below hb).trans ⟨HGROW.out.os, HGROW.out.tape, HGROW.out.output, HGROW.out.size, fun k hk hn => HGROW.out.block k hk fun e => hn (Or.inr e)⟩
    exact h1.trans (Fr.of_but (But.setCell ob c w1 _) (fun _ => Or.inl rfl))
  have qne : ob ≠ q := by
    rcases HAT.out with h | h
    · intro e; subst e; exact hov h.symm
    · simp at h; omega
  have hjobs : ∀ k, k < n + 1 → IsJob (w1.setCell ⟨ob, c, none⟩ (.slice (some ⟨q, 0, none⟩) (n + 1) cap)) (upd g n jb k) ∧ upd g n jb k ≠ q := by
    have one : ∀ b, IsJob w b → some b ≠ v.ownBlock → b ≠ ob → IsJob (w1.setCell ⟨ob, c, none⟩ (.slice (some ⟨q, 0, none⟩) (n + 1) cap)) b ∧ b ≠ q := by
      intro b hb h1 h2
      refine ⟨hb.fr hfr (by rintro (e | e) <;> contradiction), ?_⟩
      have := hb.lt
      rcases HAT.out with h | h
      · intro e; subst e; exact h1 h.symm
      · simp at h; omega
    intro k hk
    unfold upd
    split
    · exact one jb HJ.out hjv hjo
    · have := HJS.out k (by omega)
      exact one _ this.1 this.2.1 this.2.2
  have hrow : Row (w1.setCell ⟨ob, c, none⟩ (.slice (some ⟨q, 0, none⟩) (n + 1) cap)) q cap (n + 1) (upd g n jb) ∧ n + 1 ≤ cap ∧ cap ≤ maxLen ∧ B ≤ q := by
    have ho := HOWN.out
    rw [ptrs_snoc] at ho
    exact row_of_own (own_keep ho fun q' hq' => by
      injection hq' with hq'
      subst hq'
      exact Below.heap_setCell _ _ _ _ (fun e => qne e.symm)) hjobs
  obtain ⟨hr1, hr2, hr3, hr4⟩ := hrow
  have e3 : (w1.setCell ⟨ob, c, none⟩ (.slice (some ⟨q, 0, none⟩) (n + 1) cap)).cell? ⟨ob, c, none⟩ = some (.slice (some ⟨q, 0, none⟩) (n + 1) cap) := World.cell?_setCell_same _ _ _ e1
  have e4 : ∀ o, o ≠ c → (w1.setCell ⟨ob, c, none⟩ (.slice (some ⟨q, 0, none⟩) (n + 1) cap)).cell? ⟨ob, o, none⟩ = w.cell? ⟨ob, o, none⟩ := by
    intro o ho
    rw [cell_other _ (by omega), HGROW.out.cell_far ⟨ob, o, none⟩ (by simp; omega) hov, World.cell?_alloc_past _ _ _ lob]
  have e5 : ∀ o, (w1.setCell ⟨ob, c, none⟩ (.slice (some ⟨q, 0, none⟩) (n + 1) cap)).frozen? ⟨ob, o, none⟩ = w.frozen? ⟨ob, o, none⟩ := by
    intro o
    rw [World.frozen?_setCell, HGROW.out.frozen_far ⟨ob, o, none⟩ (by simp; omega) hov, World.frozen?_alloc_past _ _ _ lob]
  have e6 : ob < (w1.setCell ⟨ob, c, none⟩ (.slice (some ⟨q, 0, none⟩) (n + 1) cap)).heap.size := World.block_lt_of_cell? _ _ e3
  generalize w1.setCell ⟨ob, c, none⟩ (.slice (some ⟨q, 0, none⟩) (n + 1) cap) = W at hfr hr1 e3 e4 e5 e6 ⊢
  have hsift := siftUp_any q (n + 1) cap n (upd g n jb) W.drew (by omega) (by omega) hr2 (hr1.below (Below.refl _ _).drew)
  have HSIFT := hide hsift
  have HFR := hide hfr
  have E4 := hide e4
  have E5 := hide e5
  have hat2 : v.ownBlock = some q ∨ w.heap.size ≤ q := by
    rcases HAT.out with h | h
    · exact Or.inl h
    · right; simp at h; omega
  have HAT2 := hide hat2
  clear hsift hfr e4 e5 hr1 hjobs e1 e2 hc hf HAT hat2
  have hwr : IntKind.i64.wrap (n : Int) = (n : Int) := by rw [IntKind.wrap_i64]; omega
  go_region_held (fun w' => w'.cell? ⟨ob, c, none⟩ = some (.slice (some ⟨q, 0, none⟩) (n + 1) cap)) (first | (go_simp; done) | assumption)
    (first | (go_at_call 25; refine HSIFT.out.mono ?_; rintro e w3 ⟨rfl, hbu, g', hr', hcn⟩
              have e7 : w3.cell? ⟨ob, c, none⟩ = some (.slice (some ⟨q, 0, none⟩) (n + 1) cap) := hbu.cell e3 qne
              have HBU := hide hbu
              have HR := hide hr'
              have HCN := hide hcn
              clear hbu hr' hcn))
  go_end0
  exact ⟨rfl, q, cap, g', e7, own_of_row HR.out hr2 hr3 hr4, HAT2.out, HCN.out, fun k hk => (HR.out.j k hk).1, HFR.out.trans_but ((But.drewN q W 1).trans HBU.out) (fun hl => by
      rcases HAT2.out with h | h
      · exact Or.inr h.symm
      · omega),
    fun o ho => (HBU.out.cellAll (by exact e6) qne o).trans (E4.out o ho), fun o => (HBU.out.frozenAll (by exact e6) qne o).trans (E5.out o)⟩
end Go.Proofs.Ybulkcome
