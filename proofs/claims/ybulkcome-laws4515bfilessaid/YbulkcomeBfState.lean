import Derived.Test.YbulkcomeBfChk
namespace Go.Proofs.Ybulkcome
open Go.RowKit

/-- THE WHOLE STATE OF THE LAW: the order with its heaps, and beside it the array of the heaps' places (role 1), the array of the expected rows (role 2), the expected rows (20 + h) -/
structure Ls (ρ : Nat → Nat) (w : World) (B ob hb eb sel : Nat) (V E : Nat → Value) (n m : Nat → Nat) (g e : Nat → Nat → Nat) : Prop where
  hp : Hp ρ w B ob sel V n g
  rh : ρ hb = 1
  re : ρ eb = 2
  hc : ∀ h, h < 3 → w.cell? ⟨hb, h, none⟩ = some (.pointer (some ⟨ob, 1 + h, none⟩))
  ec : ∀ h, h < 3 → w.cell? ⟨eb, h, none⟩ = some (E h)
  ef : ∀ j, w.frozen? ⟨eb, j, none⟩ = false
  eo : ∀ h, h < 3 → w.ownsRow B 30 1 (E h) (m h) (ptrs (m h) (e h))
  er : ∀ h, h < 3 → ∀ q, (E h).ownBlock = some q → ρ q = 20 + h
  ej : ∀ h, h < 3 → ∀ k, k < m h → ρ (e h k) = 30 ∧ Zb w (e h k)
  inj : ∀ h, h < 3 → ∀ j k, j < m h → k < m h → e h j = e h k → j = k

variable {ρ : Nat → Nat} {w : World} {B ob hb eb sel : Nat} {V E : Nat → Value} {n m : Nat → Nat} {g e : Nat → Nat → Nat}

theorem Ls.hlt (h : Ls ρ w B ob hb eb sel V E n m g e) : hb < w.heap.size := World.block_lt_of_cell? w ⟨hb, 0, none⟩ (h.hc 0 (by decide))
theorem Ls.elt (h : Ls ρ w B ob hb eb sel V E n m g e) : eb < w.heap.size := World.block_lt_of_cell? w ⟨eb, 0, none⟩ (h.ec 0 (by decide))

theorem Hp.reρ (h : Hp ρ w B ob sel V n g) {ρ' : Nat → Nat} (hr : ∀ b, b < w.heap.size → ρ' b = ρ b) : Hp ρ' w B ob sel V n g where
  rob := by rw [hr ob h.lt]; exact h.rob
  hB := h.hB
  key := h.key
  hc := h.hc
  fo := h.fo
  ho := h.ho
  hr i hi q hq := by rw [hr q (own_lt (h.ho i hi) hq).1]; exact h.hr i hi q hq
  jobs i hi k hk := ⟨(h.jobs i hi k hk).1, by rw [hr _ (h.jobs i hi k hk).1.lt]; exact (h.jobs i hi k hk).2⟩

theorem Ls.reρ (h : Ls ρ w B ob hb eb sel V E n m g e) {ρ' : Nat → Nat} (hr : ∀ b, b < w.heap.size → ρ' b = ρ b) : Ls ρ' w B ob hb eb sel V E n m g e where
  hp := h.hp.reρ hr
  rh := by rw [hr hb h.hlt]; exact h.rh
  re := by rw [hr eb h.elt]; exact h.re
  hc := h.hc
  ec := h.ec
  ef := h.ef
  eo := h.eo
  er i hi q hq := by rw [hr q (own_lt (h.eo i hi) hq).1]; exact h.er i hi q hq
  ej i hi k hk := ⟨by rw [hr _ (h.ej i hi k hk).2.lt]; exact (h.ej i hi k hk).1, (h.ej i hi k hk).2⟩
  inj := h.inj

/-- new blocks alone -/
theorem Ls.below (h : Ls ρ w B ob hb eb sel V E n m g e) {w' : World} (hw : Below w.heap.size w w') : Ls ρ w' B ob hb eb sel V E n m g e where
  hp := h.hp.keep (X := fun _ => False) (Fr.of_below hw) (fun h => h) (fun _ _ _ _ h => h) (fun b _ hb => hb.below hw)
  rh := h.rh
  re := h.re
  hc i hi := bcellOf hw (h.hc i hi)
  ec i hi := bcellOf hw (h.ec i hi)
  ef j := by rw [hw.frozen (p := ⟨eb, j, none⟩) h.elt]; exact h.ef j
  eo i hi := own_below (h.eo i hi) hw
  er := h.er
  ej i hi k hk := ⟨(h.ej i hi k hk).1, (h.ej i hi k hk).2.of_block (hw.block _ (h.ej i hi k hk).2.lt)⟩
  inj := h.inj

/-- what an append and the store of its slice leave -/
theorem app_facts {w wa w1 : World} {ob c n q cap jb B H : Nat} {g : Nat → Nat} {v : Value} (hb : Below w.heap.size w wa) (hown : w1.ownsRow B 30 1 (.slice (some ⟨q, 0, none⟩) (n + 1) cap) (n + 1) (ptrs n g ++ [ptr jb]))
    (hgrow : wa.grownBy w1 v.ownBlock) (hat : v.ownBlock = some q ∨ q = H) (hH : w.heap.size ≤ H) (hc : w.cell? ⟨ob, c, none⟩ = some v) (hov : some ob ≠ v.ownBlock) :
    (w1.setCell ⟨ob, c, none⟩ (.slice (some ⟨q, 0, none⟩) (n + 1) cap)).cell? ⟨ob, c, none⟩ = some (.slice (some ⟨q, 0, none⟩) (n + 1) cap) ∧
    (w1.setCell ⟨ob, c, none⟩ (.slice (some ⟨q, 0, none⟩) (n + 1) cap)).ownsRow B 30 1 (.slice (some ⟨q, 0, none⟩) (n + 1) cap) (n + 1) (ptrs (n + 1) (upd g n jb)) ∧
    (v.ownBlock = some q ∨ w.heap.size ≤ q) ∧ Fr (fun k => k = ob ∨ some k = v.ownBlock) w (w1.setCell ⟨ob, c, none⟩ (.slice (some ⟨q, 0, none⟩) (n + 1) cap)) ∧
    (∀ o, o ≠ c → (w1.setCell ⟨ob, c, none⟩ (.slice (some ⟨q, 0, none⟩) (n + 1) cap)).cell? ⟨ob, o, none⟩ = w.cell? ⟨ob, o, none⟩) ∧
    (∀ o, (w1.setCell ⟨ob, c, none⟩ (.slice (some ⟨q, 0, none⟩) (n + 1) cap)).frozen? ⟨ob, o, none⟩ = w.frozen? ⟨ob, o, none⟩) := by
  have lob : ob < w.heap.size := World.block_lt_of_cell? w _ hc
  have lob1 : ob < wa.heap.size := Nat.lt_of_lt_of_le lob hb.size
  have hcc : ∀ o, w1.cell? ⟨ob, o, none⟩ = w.cell? ⟨ob, o, none⟩ := fun o => by
    rw [hgrow.cell_far ⟨ob, o, none⟩ lob1 hov]
    exact World.cell?_of_block (w := w) (a := ⟨ob, o, none⟩) (hb.block ob lob)
  have hff : ∀ o, w1.frozen? ⟨ob, o, none⟩ = w.frozen? ⟨ob, o, none⟩ := fun o => by
    rw [hgrow.frozen_far ⟨ob, o, none⟩ lob1 hov]
    exact World.frozen?_of_block (w := w) (a := ⟨ob, o, none⟩) (hb.block ob lob)
  have qne : ob ≠ q := by
    rcases hat with h | h
    · intro e; subst e; exact hov h.symm
    · omega
  have h1 : Fr (fun k => k = ob ∨ some k = v.ownBlock) w w1 := (Fr.of_below hb).trans ⟨hgrow.os, hgrow.tape, hgrow.output, hgrow.size, fun k hk hn => hgrow.block k hk fun e => hn (Or.inr e)⟩
  refine ⟨World.cell?_setCell_same _ _ _ (by rw [hcc]; exact hc), ?_, ?_, h1.trans (Fr.of_but (But.setCell ob c w1 _) (fun _ => Or.inl rfl)), fun o ho => ?_, fun o => ?_⟩
  · rw [ptrs_snoc] at hown
    refine own_keep hown fun q' hq' => ?_
    injection hq' with hq'
    subst hq'
    exact Below.heap_setCell _ _ _ _ (fun e => qne e.symm)
  · rcases hat with h | h
    · exact Or.inl h
    · right; omega
  · rw [cell_other _ (by omega), hcc]
  · rw [World.frozen?_setCell, hff]

/-- a job goes onto heap i -/
theorem Ls.heaped (h : Ls ρ w B ob hb eb sel V E n m g e) {w' : World} {i q cap jb : Nat} (hi : i < 3) (hjr : ρ jb = 30) (hj : IsJob w jb)
    (hc : w'.cell? ⟨ob, 1 + i, none⟩ = some (.slice (some ⟨q, 0, none⟩) (n i + 1) cap)) (ho : w'.ownsRow B 30 1 (.slice (some ⟨q, 0, none⟩) (n i + 1) cap) (n i + 1) (ptrs (n i + 1) (upd (g i) (n i) jb)))
    (hat : (V i).ownBlock = some q ∨ w.heap.size ≤ q) (hf : Fr (fun k => k = ob ∨ some k = (V i).ownBlock) w w') (hco : ∀ o, o ≠ 1 + i → w'.cell? ⟨ob, o, none⟩ = w.cell? ⟨ob, o, none⟩) (hfo : ∀ o, w'.frozen? ⟨ob, o, none⟩ = w.frozen? ⟨ob, o, none⟩) :
    ∃ ρ', (∀ b, b < w.heap.size → ρ' b = ρ b) ∧ Ls ρ' w' B ob hb eb sel (updV V i (.slice (some ⟨q, 0, none⟩) (n i + 1) cap)) E (updV n i (n i + 1)) m (updV g i (upd (g i) (n i) jb)) e := by
  have hX : ∀ k, ρ k ≠ 0 → ρ k ≠ 10 + i → ¬ (k = ob ∨ some k = (V i).ownBlock) := by
    rintro k h0 h1 (e | e)
    · rw [e] at h0; exact h0 h.hp.rob
    · exact h1 (h.hp.hr i hi k e.symm)
  obtain ⟨ρ', hρ, hp'⟩ := h.hp.pushed hi hjr hj.lt hc ho hat (fun _ => rfl) (fun k hk => by
      unfold upd
      split
      · exact hj.fr hf (hX jb (by omega) (by omega))
      · have := h.hp.jobs i hi k (by omega)
        exact this.1.fr hf (hX _ (by omega) (by omega))) hf hco hfo
  refine ⟨ρ', hρ, hp', ?_, ?_, ?_, ?_, ?_, ?_, ?_, ?_, h.inj⟩
  · rw [hρ hb h.hlt]; exact h.rh
  · rw [hρ eb h.elt]; exact h.re
  · intro j hj3; exact hf.cell (h.hc j hj3) (hX hb (by rw [h.rh]; omega) (by rw [h.rh]; omega))
  · intro j hj3; exact hf.cell (h.ec j hj3) (hX eb (by rw [h.re]; omega) (by rw [h.re]; omega))
  · intro j; rw [hf.frozen (a := ⟨eb, j, none⟩) h.elt (hX eb (by rw [h.re]; omega) (by rw [h.re]; omega))]; exact h.ef j
  · intro j hj3
    refine own_keep (h.eo j hj3) fun q' hq' => hf.block q' (own_lt (h.eo j hj3) hq').1 ?_
    have := h.er j hj3 q' hq'
    exact hX q' (by omega) (by omega)
  · intro j hj3 q' hq'
    rw [hρ q' (own_lt (h.eo j hj3) hq').1]; exact h.er j hj3 q' hq'
  · intro j hj3 k hk
    have := h.ej j hj3 k hk
    refine ⟨by rw [hρ _ this.2.lt]; exact this.1, this.2.of_block (hf.block _ this.2.lt (hX _ (by omega) (by omega)))⟩

/-- a job goes onto the expected row i -/
theorem Ls.exped (h : Ls ρ w B ob hb eb sel V E n m g e) {w' : World} {i q cap jb : Nat} (hi : i < 3) (hjr : ρ jb = 30) (hj : Zb w jb) (hnew : ∀ k, k < m i → e i k ≠ jb)
    (hc : w'.cell? ⟨eb, i, none⟩ = some (.slice (some ⟨q, 0, none⟩) (m i + 1) cap)) (ho : w'.ownsRow B 30 1 (.slice (some ⟨q, 0, none⟩) (m i + 1) cap) (m i + 1) (ptrs (m i + 1) (upd (e i) (m i) jb)))
    (hat : (E i).ownBlock = some q ∨ w.heap.size ≤ q) (hf : Fr (fun k => k = eb ∨ some k = (E i).ownBlock) w w') (hco : ∀ o, o ≠ i → w'.cell? ⟨eb, o, none⟩ = w.cell? ⟨eb, o, none⟩) (hfo : ∀ o, w'.frozen? ⟨eb, o, none⟩ = w.frozen? ⟨eb, o, none⟩) :
    ∃ ρ', (∀ b, b < w.heap.size → ρ' b = ρ b) ∧ Ls ρ' w' B ob hb eb sel V (updV E i (.slice (some ⟨q, 0, none⟩) (m i + 1) cap)) n (updV m i (m i + 1)) g (updV e i (upd (e i) (m i) jb)) := by
  have hX : ∀ k, ρ k ≠ 2 → ρ k ≠ 20 + i → ¬ (k = eb ∨ some k = (E i).ownBlock) := by
    rintro k h0 h1 (e' | e')
    · rw [e'] at h0; exact h0 h.re
    · exact h1 (h.er i hi k e'.symm)
  have hρ : ∀ b, b < w.heap.size → (if b = q then 20 + i else ρ b) = ρ b := by
    intro b hb'
    split
    · rename_i e'
      subst e'
      rcases hat with hat | hat
      · exact (h.er i hi _ hat).symm
      · omega
    · rfl
  have hpk : Hp ρ w' B ob sel V n g := by
    refine h.hp.keep hf (hX ob (by rw [h.hp.rob]; omega) (by rw [h.hp.rob]; omega)) (fun q' j hj3 hq' => hX q' (by omega) (by omega)) (fun b hb30 hjob => hjob.fr hf (hX b (by omega) (by omega)))
  have hpk' : Hp (fun b => if b = q then 20 + i else ρ b) w' B ob sel V n g := by
    refine ⟨?_, hpk.hB, hpk.key, hpk.hc, hpk.fo, hpk.ho, fun j hj3 q' hq' => ?_, fun j hj3 k hk => ⟨(hpk.jobs j hj3 k hk).1, ?_⟩⟩
    · show (if ob = q then 20 + i else ρ ob) = 0
      rw [hρ ob h.hp.lt]; exact h.hp.rob
    · show (if q' = q then 20 + i else ρ q') = 10 + j
      rw [hρ q' (own_lt (h.hp.ho j hj3) hq').1]; exact h.hp.hr j hj3 q' hq'
    · show (if g j k = q then 20 + i else ρ (g j k)) = 30
      rw [hρ _ (h.hp.jobs j hj3 k hk).1.lt]; exact (h.hp.jobs j hj3 k hk).2
  refine ⟨fun b => if b = q then 20 + i else ρ b, hρ, hpk', ?_, ?_, ?_, ?_, ?_, ?_, ?_, ?_, ?_⟩
  · show (if hb = q then 20 + i else ρ hb) = 1
    rw [hρ hb h.hlt]; exact h.rh
  · show (if eb = q then 20 + i else ρ eb) = 2
    rw [hρ eb h.elt]; exact h.re
  · intro j hj3; exact hf.cell (h.hc j hj3) (hX hb (by rw [h.rh]; omega) (by rw [h.rh]; omega))
  · intro j hj3
    by_cases e' : j = i
    · subst e'; rw [updV_same]; exact hc
    · rw [updV_other _ _ e', hco j e']; exact h.ec j hj3
  · intro j; rw [hfo j]; exact h.ef j
  · intro j hj3
    by_cases e' : j = i
    · subst e'; rw [updV_same, updV_same, updV_same]; exact ho
    · rw [updV_other _ _ e', updV_other _ _ e', updV_other _ _ e']
      refine own_keep (h.eo j hj3) fun q' hq' => hf.block q' (own_lt (h.eo j hj3) hq').1 ?_
      have := h.er j hj3 q' hq'
      exact hX q' (by omega) (by omega)
  · intro j hj3 q' hq'
    by_cases e' : j = i
    · subst e'
      rw [updV_same] at hq'
      injection hq' with hq'
      subst hq'
      simp
    · rw [updV_other _ _ e'] at hq'
      show (if q' = q then 20 + i else ρ q') = 20 + j
      rw [hρ q' (own_lt (h.eo j hj3) hq').1]; exact h.er j hj3 q' hq'
  · intro j hj3 k hk
    have one : ∀ b, ρ b = 30 → Zb w b → (if b = q then 20 + i else ρ b) = 30 ∧ Zb w' b := fun b h30 hz => ⟨by rw [hρ b hz.lt]; exact h30, hz.of_block (hf.block b hz.lt (hX b (by omega) (by omega)))⟩
    by_cases e' : j = i
    · subst e'
      rw [updV_same] at hk ⊢
      unfold upd
      split
      · exact one jb hjr hj
      · have := h.ej j hj3 k (by omega)
        exact one _ this.1 this.2
    · rw [updV_other _ _ e'] at hk ⊢
      have := h.ej j hj3 k hk
      exact one _ this.1 this.2
  · intro j hj3 k k' hk hk'
    by_cases e' : j = i
    · subst e'
      rw [updV_same] at hk hk' ⊢
      unfold upd
      intro he
      split at he
      · split at he
        · omega
        · exact absurd he.symm (hnew k' (by omega))
      · split at he
        · exact absurd he (hnew k (by omega))
        · exact h.inj j hj3 k k' (by omega) (by omega) he
    · rw [updV_other _ _ e'] at hk hk' ⊢
      exact h.inj j hj3 k k' hk hk'

/-- the order's other places may be turned -/
theorem Ls.place (h : Ls ρ w B ob hb eb sel V E n m g e) (o : Nat) (ho : 4 ≤ o) (v : Value) : Ls ρ (w.setCell ⟨ob, o, none⟩ v) B ob hb eb sel V E n m g e := by
  have hbu := But.setCell ob o w v
  have hne : ∀ k, ρ k ≠ 0 → k ≠ ob := fun k hk e => hk (by rw [e]; exact h.hp.rob)
  have hco : ∀ j, j ≠ o → (w.setCell ⟨ob, o, none⟩ v).cell? ⟨ob, j, none⟩ = w.cell? ⟨ob, j, none⟩ := fun j hj => cell_other _ (by omega)
  refine ⟨⟨h.hp.rob, Nat.le_trans h.hp.hB hbu.size, by rw [hco 0 (by omega)]; exact h.hp.key, fun i hi => by rw [hco (1 + i) (by omega)]; exact h.hp.hc i hi, fun j => by rw [World.frozen?_setCell]; exact h.hp.fo j, fun i hi => ?_, h.hp.hr, fun i hi k hk => ?_⟩,
    h.rh, h.re, fun i hi => hbu.cell (h.hc i hi) (hne hb (by rw [h.rh]; omega)), fun i hi => hbu.cell (h.ec i hi) (hne eb (by rw [h.re]; omega)), fun j => ?_, fun i hi => ?_, h.er, fun i hi k hk => ?_, h.inj⟩
  · refine own_keep (h.hp.ho i hi) fun q hq => hbu.block q (own_lt (h.hp.ho i hi) hq).1 (hne q ?_)
    rw [h.hp.hr i hi q hq]; omega
  · have := h.hp.jobs i hi k hk
    exact ⟨this.1.but hbu (hne _ (by omega)), this.2⟩
  · rw [World.frozen?_setCell]; exact h.ef j
  · refine own_keep (h.eo i hi) fun q hq => hbu.block q (own_lt (h.eo i hi) hq).1 (hne q ?_)
    rw [h.er i hi q hq]; omega
  · have := h.ej i hi k hk
    exact ⟨this.1, this.2.of_block (hbu.block _ this.2.lt (hne _ (by omega)))⟩

/-- the tallies of the two sides -/
def Tl (n m : Nat → Nat) (g e : Nat → Nat → Nat) (om os : Job) : Prop := ∀ h, h < 3 → m h = n h + cN om h + cN os h ∧ ∀ x, cnt (m h) (e h) x = cnt (n h) (g h) x + cC om h x + cC os h x

theorem Tl.start (n : Nat → Nat) (g : Nat → Nat → Nat) : Tl n n g g none none := fun _ _ => ⟨rfl, fun _ => rfl⟩
theorem Tl.add {om os om' os' : Job} {b : Nat} {d : Dat} (h : Tl n m g e om os) (hN : ∀ i, cN om' i + cN os' i = cN om i + cN os i + cN (some (b, d)) i) (hC : ∀ i x, cC om' i x + cC os' i x = cC om i x + cC os i x + cC (some (b, d)) i x) :
    Tl n (updV m (whereOf d) (m (whereOf d) + 1)) g (updV e (whereOf d) (upd (e (whereOf d)) (m (whereOf d)) b)) om' os' := by
  intro i hi
  have h1 := h i hi
  have e2 := hN i
  by_cases e' : i = whereOf d
  · subst e'
    rw [updV_same, updV_same]
    have e3 : cN (some (b, d)) (whereOf d) = 1 := by simp [cN]
    refine ⟨by omega, fun x => ?_⟩
    rw [cnt_snoc]
    have e4 := h1.2 x
    have e5 := hC (whereOf d) x
    have e6 : cC (some (b, d)) (whereOf d) x = if b = x then 1 else 0 := by simp [cC]
    omega
  · rw [updV_other _ _ e', updV_other _ _ e']
    have e3 : cN (some (b, d)) i = 0 := by unfold cN; simp only; rw [if_neg (fun e2 => e' e2.symm)]
    refine ⟨by omega, fun x => ?_⟩
    have e4 := h1.2 x
    have e5 := hC i x
    have e6 : cC (some (b, d)) i x = 0 := by unfold cC; simp only; rw [if_neg (fun e2 => e' e2.1.symm)]
    omega

theorem cnt_pos {n : Nat} {g : Nat → Nat} {x : Nat} (h : cnt n g x ≠ 0) : ∃ i, i < n ∧ g i = x := by
  by_cases hex : ∃ i, i < n ∧ g i = x
  · exact hex
  · exact absurd (cnt_zero (fun i hi e => hex ⟨i, hi, e⟩)) h

/-- behind fileHeld: what the checks read -/
structure Fin3 (w : World) (B ob hb eb : Nat) (V E : Nat → Value) (m : Nat → Nat) (g e : Nat → Nat → Nat) : Prop where
  hc : ∀ h, h < 3 → w.cell? ⟨hb, h, none⟩ = some (.pointer (some ⟨ob, 1 + h, none⟩))
  ec : ∀ h, h < 3 → w.cell? ⟨eb, h, none⟩ = some (E h)
  vc : ∀ h, h < 3 → w.cell? ⟨ob, 1 + h, none⟩ = some (V h)
  vo : ∀ h, h < 3 → w.ownsRow B 30 1 (V h) (m h) (ptrs (m h) (g h))
  eo : ∀ h, h < 3 → w.ownsRow B 30 1 (E h) (m h) (ptrs (m h) (e h))
  zg : ∀ h, h < 3 → ∀ k, k < m h → Zb w (g h k)
  ze : ∀ h, h < 3 → ∀ k, k < m h → Zb w (e h k)
  one : ∀ h, h < 3 → ∀ k, k < m h → cnt (m h) (g h) (e h k) = 1

theorem Ls.filed (h : Ls ρ w B ob hb eb sel V E n m g e) {om os : Job} (ht : Tl n m g e om os) {w' : World} (hs : FS ρ w B ob sel n g om os w') : ∃ V' g', Fin3 w' B ob hb eb V' E m g' e := by
  obtain ⟨ρ', V', n', g', h1, h2, h3, h4, h5, h6⟩ := hs
  have hn : ∀ i, i < 3 → n' i = m i := fun i hi => by rw [h3 i hi, (ht i hi).1]
  have hcn : ∀ i, i < 3 → ∀ x, cnt (m i) (g' i) x = cnt (m i) (e i) x := fun i hi x => by rw [← hn i hi, h4 i hi x, hn i hi, (ht i hi).2 x]
  have hone : ∀ i, i < 3 → ∀ k, k < m i → cnt (m i) (g' i) (e i k) = 1 := fun i hi k hk => by rw [hcn i hi]; exact cnt_one hk (h.inj i hi)
  have hX : ∀ k, ρ k = 1 ∨ ρ k = 2 ∨ 20 ≤ ρ k ∧ ρ k < 23 → ¬ tagX ρ k := by
    intro k hk hx
    unfold tagX at hx
    omega
  have hzg : ∀ i, i < 3 → ∀ k, k < m i → Zb w' (g' i k) := fun i hi k hk => (h2.jobs i hi k (by rw [hn i hi]; exact hk)).1.2
  refine ⟨V', g', fun i hi => h5.cell (h.hc i hi) (hX _ (Or.inl h.rh)), fun i hi => h5.cell (h.ec i hi) (hX _ (Or.inr (Or.inl h.re))), h2.hc, fun i hi => ?_, fun i hi => ?_, hzg, fun i hi k hk => ?_, hone⟩
  · have := h2.ho i hi
    rw [hn i hi] at this
    exact this
  · refine own_keep (h.eo i hi) fun q hq => h5.block q (own_lt (h.eo i hi) hq).1 (hX q (Or.inr (Or.inr ?_)))
    have := h.er i hi q hq
    omega
  · obtain ⟨j, hj, he⟩ := cnt_pos (n := m i) (g := g' i) (x := e i k) (by rw [hone i hi k hk]; decide)
    rw [← he]
    exact hzg i hi j hj

/-- the state, with the boxed arguments and the order's three other places -/
structure Full (ρ : Nat → Nat) (w0 w : World) (mb sb ob hb eb sel : Nat) (V E : Nat → Value) (n m : Nat → Nat) (g e : Nat → Nat → Nat) (dm ds : Dat) (pm ps : Int) (v4 v5 v6 : Value) : Prop where
  ls : Ls ρ w w0.heap.size ob hb eb sel V E n m g e
  bl : Below w0.heap.size w0 w
  lo : w0.heap.size ≤ ob
  le : w0.heap.size ≤ eb
  rm : ρ mb = 3
  rs : ρ sb = 3
  bm : w.heap[mb]? = some (.cells (dval dm pm) 25)
  bs : w.heap[sb]? = some (.cells (dval ds ps) 25)
  c4 : w.cell? ⟨ob, 4, none⟩ = some v4
  c5 : w.cell? ⟨ob, 5, none⟩ = some v5
  c6 : w.cell? ⟨ob, 6, none⟩ = some v6
  old : ∀ k, k < w0.heap.size → ρ k = 2

theorem lt_of_block {w : World} {b : Nat} {o : Obj} (h : w.heap[b]? = some o) : b < w.heap.size := by
  rcases Nat.lt_or_ge b w.heap.size with hlt | hge
  · exact hlt
  · rw [Array.getElem?_eq_none hge] at h; cases h

variable {w0 : World} {mb sb : Nat} {dm ds : Dat} {pm ps : Int} {v4 v5 v6 : Value}

theorem Full.reρ (h : Full ρ w0 w mb sb ob hb eb sel V E n m g e dm ds pm ps v4 v5 v6) {ρ' : Nat → Nat} (hr : ∀ b, b < w.heap.size → ρ' b = ρ b) : Full ρ' w0 w mb sb ob hb eb sel V E n m g e dm ds pm ps v4 v5 v6 :=
  ⟨h.ls.reρ hr, h.bl, h.lo, h.le, by rw [hr mb (lt_of_block h.bm)]; exact h.rm, by rw [hr sb (lt_of_block h.bs)]; exact h.rs, h.bm, h.bs, h.c4, h.c5, h.c6, fun k hk => (hr k (Nat.lt_of_lt_of_le hk h.bl.size)).trans (h.old k hk)⟩

theorem Full.below (h : Full ρ w0 w mb sb ob hb eb sel V E n m g e dm ds pm ps v4 v5 v6) {w' : World} (hw : Below w.heap.size w w') : Full ρ w0 w' mb sb ob hb eb sel V E n m g e dm ds pm ps v4 v5 v6 :=
  ⟨h.ls.below hw, h.bl.trans (hw.mono h.bl.size), h.lo, h.le, h.rm, h.rs, by rw [hw.block mb (lt_of_block h.bm)]; exact h.bm, by rw [hw.block sb (lt_of_block h.bs)]; exact h.bs, bcellOf hw h.c4, bcellOf hw h.c5, bcellOf hw h.c6, h.old⟩

/-- a new block is a job's -/
theorem Full.newJob (h : Full ρ w0 w mb sb ob hb eb sel V E n m g e dm ds pm ps v4 v5 v6) {w' : World} (hw : Below w.heap.size w w') {jb : Nat} (hj : w.heap.size ≤ jb) :
    ∃ ρ', (∀ b, b < w.heap.size → ρ' b = ρ b) ∧ ρ' jb = 30 ∧ Full ρ' w0 w' mb sb ob hb eb sel V E n m g e dm ds pm ps v4 v5 v6 := by
  have hr : ∀ b, b < w.heap.size → (if b = jb then 30 else ρ b) = ρ b := fun b hb' => if_neg (by omega)
  exact ⟨fun b => if b = jb then 30 else ρ b, hr, by simp, (h.reρ hr).below hw⟩

theorem Full.place (h : Full ρ w0 w mb sb ob hb eb sel V E n m g e dm ds pm ps v4 v5 v6) (v : Value) :
    Full ρ w0 (w.setCell ⟨ob, 4, none⟩ v) mb sb ob hb eb sel V E n m g e dm ds pm ps v v5 v6 ∧ Full ρ w0 (w.setCell ⟨ob, 5, none⟩ v) mb sb ob hb eb sel V E n m g e dm ds pm ps v4 v v6 ∧ Full ρ w0 (w.setCell ⟨ob, 6, none⟩ v) mb sb ob hb eb sel V E n m g e dm ds pm ps v4 v5 v := by
  have hne : ∀ k, ρ k = 3 → k ≠ ob := fun k hk e => by rw [e, h.ls.hp.rob] at hk; cases hk
  have hbm : ∀ o, (w.setCell ⟨ob, o, none⟩ v).heap[mb]? = some (.cells (dval dm pm) 25) := fun o => by rw [(But.setCell ob o w v).block mb (lt_of_block h.bm) (hne mb h.rm)]; exact h.bm
  have hbs : ∀ o, (w.setCell ⟨ob, o, none⟩ v).heap[sb]? = some (.cells (dval ds ps) 25) := fun o => by rw [(But.setCell ob o w v).block sb (lt_of_block h.bs) (hne sb h.rs)]; exact h.bs
  have hbl : ∀ o, Below w0.heap.size w0 (w.setCell ⟨ob, o, none⟩ v) := fun o => h.bl.setCell h.lo _
  refine ⟨⟨h.ls.place 4 (by omega) v, hbl 4, h.lo, h.le, h.rm, h.rs, hbm 4, hbs 4, World.cell?_setCell_same _ _ _ h.c4, ?_, ?_, h.old⟩, ⟨h.ls.place 5 (by omega) v, hbl 5, h.lo, h.le, h.rm, h.rs, hbm 5, hbs 5, ?_, World.cell?_setCell_same _ _ _ h.c5, ?_, h.old⟩, ⟨h.ls.place 6 (by omega) v, hbl 6, h.lo, h.le, h.rm, h.rs, hbm 6, hbs 6, ?_, ?_, World.cell?_setCell_same _ _ _ h.c6, h.old⟩⟩ <;> rw [cell_other _ (by omega)] <;> first | exact h.c4 | exact h.c5 | exact h.c6

theorem Full.heaped (h : Full ρ w0 w mb sb ob hb eb sel V E n m g e dm ds pm ps v4 v5 v6) {wa w1 : World} {i q cap jb H : Nat} (hi : i < 3) (hjr : ρ jb = 30) (hj : IsJob w jb)
    (hb' : Below w.heap.size w wa) (hown : w1.ownsRow w0.heap.size 30 1 (.slice (some ⟨q, 0, none⟩) (n i + 1) cap) (n i + 1) (ptrs (n i) (g i) ++ [ptr jb]))
    (hgrow : wa.grownBy w1 (V i).ownBlock) (hat : (V i).ownBlock = some q ∨ q = H) (hH : w.heap.size ≤ H) :
    ∃ ρ', (∀ b, b < w.heap.size → ρ' b = ρ b) ∧ Full ρ' w0 (w1.setCell ⟨ob, 1 + i, none⟩ (.slice (some ⟨q, 0, none⟩) (n i + 1) cap)) mb sb ob hb eb sel (updV V i (.slice (some ⟨q, 0, none⟩) (n i + 1) cap)) E (updV n i (n i + 1)) m (updV g i (upd (g i) (n i) jb)) e dm ds pm ps v4 v5 v6 ∧
      (∀ b d, ρ b = 30 → JobD w b d → JobD (w1.setCell ⟨ob, 1 + i, none⟩ (.slice (some ⟨q, 0, none⟩) (n i + 1) cap)) b d) := by
  have hov : some ob ≠ (V i).ownBlock := by
    intro e'
    have := h.ls.hp.hr i hi ob e'.symm
    rw [h.ls.hp.rob] at this
    omega
  obtain ⟨a1, a2, a3, a4, a5, a6⟩ := app_facts hb' hown hgrow hat hH (h.ls.hp.hc i hi) hov
  have hX : ∀ k, ρ k ≠ 0 → ρ k ≠ 10 + i → ¬ (k = ob ∨ some k = (V i).ownBlock) := by
    rintro k h0 h1 (e' | e')
    · rw [e'] at h0; exact h0 h.ls.hp.rob
    · exact h1 (h.ls.hp.hr i hi k e'.symm)
  obtain ⟨ρ', hρ, hl⟩ := h.ls.heaped hi hjr hj a1 a2 a3 a4 a5 a6
  refine ⟨ρ', hρ, ⟨hl, h.bl.trans (a4.below h.bl.size ?_), h.lo, h.le, by rw [hρ mb (lt_of_block h.bm)]; exact h.rm, by rw [hρ sb (lt_of_block h.bs)]; exact h.rs,
    by rw [a4.block mb (lt_of_block h.bm) (hX mb (by rw [h.rm]; omega) (by rw [h.rm]; omega))]; exact h.bm, by rw [a4.block sb (lt_of_block h.bs) (hX sb (by rw [h.rs]; omega) (by rw [h.rs]; omega))]; exact h.bs,
    by rw [a5 4 (by omega)]; exact h.c4, by rw [a5 5 (by omega)]; exact h.c5, by rw [a5 6 (by omega)]; exact h.c6, fun k hk => (hρ k (Nat.lt_of_lt_of_le hk h.bl.size)).trans (h.old k hk)⟩, fun b d h30 hd => hd.fr a4 (hX b (by omega) (by omega))⟩
  rintro k (e' | e')
  · rw [e']; exact h.lo
  · exact (own_lt (h.ls.hp.ho i hi) e'.symm).2

theorem Full.exped (h : Full ρ w0 w mb sb ob hb eb sel V E n m g e dm ds pm ps v4 v5 v6) {wa w1 : World} {i q cap jb H : Nat} (hi : i < 3) (hjr : ρ jb = 30) (hj : Zb w jb) (hnew : ∀ k, k < m i → e i k ≠ jb)
    (hb' : Below w.heap.size w wa) (hown : w1.ownsRow w0.heap.size 30 1 (.slice (some ⟨q, 0, none⟩) (m i + 1) cap) (m i + 1) (ptrs (m i) (e i) ++ [ptr jb]))
    (hgrow : wa.grownBy w1 (E i).ownBlock) (hat : (E i).ownBlock = some q ∨ q = H) (hH : w.heap.size ≤ H) :
    ∃ ρ', (∀ b, b < w.heap.size → ρ' b = ρ b) ∧ Full ρ' w0 (w1.setCell ⟨eb, i, none⟩ (.slice (some ⟨q, 0, none⟩) (m i + 1) cap)) mb sb ob hb eb sel V (updV E i (.slice (some ⟨q, 0, none⟩) (m i + 1) cap)) n (updV m i (m i + 1)) g (updV e i (upd (e i) (m i) jb)) dm ds pm ps v4 v5 v6 ∧
      (∀ b d, ρ b = 30 → JobD w b d → JobD (w1.setCell ⟨eb, i, none⟩ (.slice (some ⟨q, 0, none⟩) (m i + 1) cap)) b d) := by
  have hov : some eb ≠ (E i).ownBlock := by
    intro e'
    have := h.ls.er i hi eb e'.symm
    rw [h.ls.re] at this
    omega
  obtain ⟨a1, a2, a3, a4, a5, a6⟩ := app_facts hb' hown hgrow hat hH (h.ls.ec i hi) hov
  have hX : ∀ k, ρ k ≠ 2 → ρ k ≠ 20 + i → ¬ (k = eb ∨ some k = (E i).ownBlock) := by
    rintro k h0 h1 (e' | e')
    · rw [e'] at h0; exact h0 h.ls.re
    · exact h1 (h.ls.er i hi k e'.symm)
  have hXo : ¬ (ob = eb ∨ some ob = (E i).ownBlock) := hX ob (by rw [h.ls.hp.rob]; omega) (by rw [h.ls.hp.rob]; omega)
  obtain ⟨ρ', hρ, hl⟩ := h.ls.exped hi hjr hj hnew a1 a2 a3 a4 a5 a6
  refine ⟨ρ', hρ, ⟨hl, h.bl.trans (a4.below h.bl.size ?_), h.lo, h.le, by rw [hρ mb (lt_of_block h.bm)]; exact h.rm, by rw [hρ sb (lt_of_block h.bs)]; exact h.rs,
    by rw [a4.block mb (lt_of_block h.bm) (hX mb (by rw [h.rm]; omega) (by rw [h.rm]; omega))]; exact h.bm, by rw [a4.block sb (lt_of_block h.bs) (hX sb (by rw [h.rs]; omega) (by rw [h.rs]; omega))]; exact h.bs,
    a4.cell h.c4 hXo, a4.cell h.c5 hXo, a4.cell h.c6 hXo, fun k hk => (hρ k (Nat.lt_of_lt_of_le hk h.bl.size)).trans (h.old k hk)⟩, fun b d h30 hd => hd.fr a4 (hX b (by omega) (by omega))⟩
  rintro k (e' | e')
  · rw [e']; exact h.le
  · exact (own_lt (h.ls.eo i hi) e'.symm).2
end Go.Proofs.Ybulkcome
