import Derived.Test.YbulkcoowFmtArgs
namespace Go.Proofs.YbulkcoowFmt
open Go.RowKit

/-- the state of the loop over the arguments -/
structure A4 (w : World) (m oq mb cq aq : Nat) (Kd V : Nat → Int) (K : Nat → Nat) (k : Nat) (es : Array MapEntry) (clock : Nat) (T : Nat → Nat) (wr : World) : Prop where
  row : RowI w aq (m + 1) 1 (fun j => pt (T j)) k wr
  c : wr.cell? ⟨cq, 0, none⟩ = some (.map (some mb))
  hm : wr.heap[mb]? = some (.map es clock)
  ke : ∀ e ∈ es.toList, ∃ b, e.key = kp b ∧ b ≠ aq ∧ Zb wr b
  ops : OpsAt wr oq m K
  tm : ∀ j, j < k → Tq aq wr es (T j) (Z Kd V j)
  no : oq ≠ aq
  nc : cq ≠ aq
  nm : w.heap.size ≤ mb

variable {w wr : World} {m oq mb cq aq k clock : Nat} {Kd V : Nat → Int} {K : Nat → Nat} {es : Array MapEntry} {T : Nat → Nat}

theorem A4.cmp (h : A4 w m oq mb cq aq Kd V K k es clock T wr) : Cmp wr cq mb clock es := ⟨h.c, h.hm, fun e he => by obtain ⟨b, h1, _, h2⟩ := h.ke e he; exact ⟨b, h1, h2⟩⟩

theorem OpsAt.kp {w w' : World} {q oq len : Nat} {K : Nat → Nat} (h : OpsAt w oq len K) (hk : Kp q w w') (hq : oq ≠ q) : OpsAt w' oq len K := fun i hi => by
  obtain ⟨h0, l, m, h1, h2, h3, h4, h5, h6⟩ := h i hi
  exact ⟨h0, l, m, hk.cell _ _ hq h1, hk.cell _ _ hq h2, hk.cell _ _ hq h3, hk.cell _ _ hq h4, hk.cell _ _ hq h5, hk.cell _ _ hq h6⟩

/-- new blocks alone -/
theorem A4.grow (h : A4 w m oq mb cq aq Kd V K k es clock T wr) {w2 : World} (hb : Below wr.heap.size wr w2) : A4 w m oq mb cq aq Kd V K k es clock T w2 :=
  ⟨h.row.below hb, bcellOf hb h.c, by rw [hb.block mb (lt_of_block h.hm)]; exact h.hm, fun e he => by obtain ⟨b, h1, h2, h3⟩ := h.ke e he; exact ⟨b, h1, h2, h3.below hb⟩, h.ops.below hb, fun j hj => (h.tm j hj).same (Kp.below hb), h.no, h.nc, h.nm⟩

theorem RowI.congr {q n s : Nat} {D D' : Nat → Value} (h : RowI w q n s D k wr) (e : ∀ j, j < k → D' j = D j) : RowI w q n s D' k wr :=
  ⟨h.bl, h.q0, h.ql, h.r, h.fr, fun j hj => by rw [e j hj]; exact h.d j hj⟩

/-- one more argument is laid -/
theorem A4.put (h : A4 w m oq mb cq aq Kd V K k es clock T wr) {t : Nat} (ht : Tq aq wr es t (Z Kd V k)) (hk : k < m + 1) :
    A4 w m oq mb cq aq Kd V K (k + 1) es clock (fun j => if j = k then t else T j) (wr.setCell ⟨aq, k, none⟩ (pt t)) := by
  have hkp := Kp.set aq k wr (pt t)
  have hmne : mb ≠ aq := by
    intro e
    obtain ⟨v, hv⟩ := h.row.r k (by omega)
    unfold World.cell? at hv
    simp only [← e] at hv
    rw [h.hm] at hv
    cases hv
  have hr := (h.row.congr (D' := fun j => pt (if j = k then t else T j)) (fun j hj => by rw [if_neg (by omega)])).next (k := k) (by omega)
  simp only [if_pos] at hr
  refine ⟨hr, hkp.cell _ _ h.nc h.c, by rw [Below.heap_setCell _ _ _ _ hmne]; exact h.hm, fun e he => ?_, h.ops.kp hkp h.no, fun j hj => ?_, h.no, h.nc, h.nm⟩
  · obtain ⟨b, h1, h2, h3⟩ := h.ke e he
    exact ⟨b, h1, h2, hkp.zb _ h2 h3⟩
  · by_cases e : j = k
    · subst e; simp only [if_pos]; exact ht.same hkp
    · simp only [if_neg e]; exact (h.tm j (by omega)).same hkp

/-- a constant's value is laid into the map -/
theorem A4.const (h : A4 w m oq mb cq aq Kd V K k es clock T wr) {kb : Nat} {z : Int} (hz : Zb wr kb) (hq : kb ≠ aq) (hn : ∀ e ∈ es.toList, e.key ≠ kp kb) :
    A4 w m oq mb cq aq Kd V K k (es.push { key := kp kb, val := kv z, born := clock }) (clock + 1) T (ChangeMaps.setBlock wr mb (.map (es.push { key := kp kb, val := kv z, born := clock }) (clock + 1))) ∧
      Has (ChangeMaps.setBlock wr mb (.map (es.push { key := kp kb, val := kv z, born := clock }) (clock + 1))) (es.push { key := kp kb, val := kv z, born := clock }) kb z := by
  have hkp : Kp aq wr (ChangeMaps.setBlock wr mb (.map (es.push { key := kp kb, val := kv z, born := clock }) (clock + 1))) := Kp.map h.hm
  have hkp2 : ∀ q, Kp q wr (ChangeMaps.setBlock wr mb (.map (es.push { key := kp kb, val := kv z, born := clock }) (clock + 1))) := fun q => Kp.map h.hm
  have hz2 := hkp.zb _ hq hz
  have hbl : Below w.heap.size wr (ChangeMaps.setBlock wr mb (.map (es.push { key := kp kb, val := kv z, born := clock }) (clock + 1))) :=
    ⟨rfl, rfl, rfl, by simp [ChangeMaps.setBlock], fun i hi => ChangeMaps.heap_setBlock_other h.hm _ (by have := h.nm; omega)⟩
  refine ⟨⟨⟨h.row.bl.trans hbl, h.row.q0, by simpa [ChangeMaps.setBlock] using h.row.ql, fun j hj => ?_, fun j => ?_, fun j hj => (hkp2 (aq + 1)).cell _ _ (by simp) (h.row.d j hj)⟩, hkp.cell _ _ h.nc h.c, ChangeMaps.heap_setBlock_same h.hm _, fun e he => ?_, h.ops.kp hkp h.no, fun j hj => (h.tm j hj).keep hkp fun k' z' hh => ?_, h.no, h.nc, h.nm⟩, ⟨hz2, fun e he hk' => ?_, ⟨{ key := kp kb, val := kv z, born := clock }, by simp, rfl⟩⟩⟩
  · obtain ⟨v, hv⟩ := h.row.r j hj
    exact ⟨v, (hkp2 (aq + 1)).cell _ _ (by simp) hv⟩
  · rw [ChangeMaps.frozen?_setBlock h.hm]; exact h.row.fr j
  · simp at he
    rcases he with he | rfl
    · obtain ⟨b, h1, h2, h3⟩ := h.ke e (by simpa using he)
      exact ⟨b, h1, h2, hkp.zb _ h2 h3⟩
    · exact ⟨kb, rfl, hq, hz2⟩
  · have hne : kp kb ≠ kp k' := by
      obtain ⟨e, he, hke⟩ := hh.x
      intro e2
      exact hn e he (by rw [hke, e2])
    refine ⟨fun e he hk' => ?_, ?_⟩
    · simp at he
      rcases he with he | rfl
      · exact hh.v e (by simpa using he) hk'
      · exact absurd hk' hne
    · obtain ⟨e, he, hke⟩ := hh.x
      exact ⟨e, by simp; exact Or.inl (by simpa using he), hke⟩
  · simp at he
    rcases he with he | rfl
    · exact absurd hk' (hn e (by simpa using he))
    · rfl

theorem A4.start (hb : Below w.heap.size w wr) (ho : OpsAt wr oq m K) (hoq : oq < wr.heap.size) : A4 w m oq wr.heap.size (wr.heap.size + 1) (wr.heap.size + 1 + 1) Kd V K 0 #[] 0 (fun _ => 0)
    (((wr.alloc (.map #[] 0)).alloc (.cells #[.map (some wr.heap.size), .bool false, .pointer none] 41)).alloc (.cells (mcs (.pointer none) ((m + 1) * 1)) 43)) := by
  have hb1 : Below wr.heap.size wr ((wr.alloc (.map #[] 0)).alloc (.cells #[.map (some wr.heap.size), .bool false, .pointer none] 41)) := ((Below.refl _ _).alloc (Nat.le_refl _) _).alloc (by simp) _
  have hb2 := hb1.alloc (by simp; omega) (.cells (mcs (.pointer none) ((m + 1) * 1)) 43)
  have hr := RowI.made (w := w) (hb.trans (hb1.mono hb.size)) (m + 1) 1 (.pointer none) 43 (fun _ => pt 0)
  rw [show ((wr.alloc (.map #[] 0)).alloc (.cells #[.map (some wr.heap.size), .bool false, .pointer none] 41)).heap.size = wr.heap.size + 1 + 1 by simp] at hr
  refine ⟨hr, by go_simp, ?_, fun e he => by simp at he, ho.below hb2, fun j hj => by omega, by omega, by omega, hb.size⟩
  have h0 := (MapKept.heap_alloc wr (.map #[] 0)).1
  exact (((Below.refl (wr.heap.size + 1) (wr.alloc (.map #[] 0))).alloc (by simp) _).alloc (by simp) _).block wr.heap.size (by omega) |>.trans h0
end Go.Proofs.YbulkcoowFmt
