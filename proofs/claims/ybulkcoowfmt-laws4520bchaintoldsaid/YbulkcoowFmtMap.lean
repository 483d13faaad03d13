import Derived.Test.YbulkcoowFmtArith
import Derived.LaidEqlPtr
import Derived.Maps.Keyed
namespace Go.Proofs.YbulkcoowFmt
open Go.RowKit

/-- a plain block -/
def Zb (w : World) (b : Nat) : Prop := ∃ cs t, w.heap[b]? = some (.cells cs t (0, 0))
theorem Zb.lt {w : World} {b : Nat} (h : Zb w b) : b < w.heap.size := by
  obtain ⟨cs, t, h⟩ := h
  rcases Nat.lt_or_ge b w.heap.size with hlt | hge
  · exact hlt
  · rw [Array.getElem?_eq_none hge] at h; cases h
theorem Zb.of_block {w w' : World} {b : Nat} (h : Zb w b) (e : w'.heap[b]? = w.heap[b]?) : Zb w' b := by
  obtain ⟨cs, t, h⟩ := h
  exact ⟨cs, t, by rw [e]; exact h⟩

def kp (b : Nat) : Value := .pointer (some ⟨b, 0, none⟩)
def kv (z : Int) : Value := .agg #[.int .i64 z, .float .f64 0, .bool false]

theorem info55 : (Ybaf.prog.info? 55).map (fun i => decide (i.size ≠ 0)) = some true := by kernel_rfl

theorem run_equal_key (w : World) {a b : Nat} (ha : Zb w a) (hb : Zb w b) : (Op.equal 46 (kp a) (kp b)).run Ybaf.prog w = .ok (a == b) w := by
  obtain ⟨i55, h1, h2⟩ := Option.map_eq_some_iff.1 info55
  have hsz : i55.size ≠ 0 := by simpa using h2
  by_cases e : a = b
  · subst e
    have h : ∀ d : Nat, (Op.equalIn (d + 1) 46 (kp a) (kp a)).run Ybaf.prog w = .ok true w := fun d => by
      simp [kp, Op.equalIn, run_underlying Ybaf.underlying46, sizeOf, typeInfo, h1, run_sameAddr_same]
    simp [Op.equal, Op.maxDepth, h 9999]
  · obtain ⟨ca, ta, ha⟩ := ha
    obtain ⟨cb, tb, hb⟩ := hb
    have hne : (⟨a, 0, none⟩ : Addr) ≠ ⟨b, 0, none⟩ := by intro h; injection h with h; exact e h
    have h : ∀ d : Nat, (Op.equalIn (d + 1) 46 (kp a) (kp b)).run Ybaf.prog w = .ok false w := fun d => by
      simp [kp, Op.equalIn, run_underlying Ybaf.underlying46, sizeOf, typeInfo, h1, hsz, run_sameAddr_other w hne ha hb]
    simp [Op.equal, Op.maxDepth, h 9999, e]

/-- every key is a pointer to a constant -/
def Ents (w : World) (es : List MapEntry) : Prop := ∀ e ∈ es, ∃ b, e.key = kp b ∧ Zb w b

theorem asking_miss (w : World) {k : Nat} (hk : Zb w k) : ∀ (es : List MapEntry) (i : Nat), Ents w es → (∀ e ∈ es, e.key ≠ kp k) → (Instr.findAsking 46 (kp k) es i).run Ybaf.prog w = .ok none w
  | [], _, _, _ => rfl
  | e :: es, i, h, hn => by
    obtain ⟨b, hb, hz⟩ := h e (by simp)
    have hne : ¬ k = b := fun he => hn e (by simp) (by rw [hb, he])
    unfold Instr.findAsking
    simp only [hb, Sem.run_bind, run_equal_key w hk hz, Result.andThen_ok]
    simp [hne]
    exact asking_miss w hk es (i + 1) (fun e he => h e (by simp [he])) (fun e he => hn e (by simp [he]))

theorem asking_hit (w : World) {k : Nat} (hk : Zb w k) {v : Value} : ∀ (es : List MapEntry) (i : Nat), Ents w es → (∀ e ∈ es, e.key = kp k → e.val = v) → (∃ e ∈ es, e.key = kp k) → ∃ j, (Instr.findAsking 46 (kp k) es i).run Ybaf.prog w = .ok (some (j, v)) w
  | [], _, _, _, ⟨e, he, _⟩ => by simp at he
  | e :: es, i, h, hv, hx => by
    obtain ⟨b, hb, hz⟩ := h e (by simp)
    by_cases hkb : k = b
    · refine ⟨i, ?_⟩
      unfold Instr.findAsking
      simp only [hb, Sem.run_bind, run_equal_key w hk hz, Result.andThen_ok]
      simp [hkb]
      exact hv e (by simp) (by rw [hb, hkb])
    · obtain ⟨e', he', hk'⟩ := hx
      rcases List.mem_cons.1 he' with rfl | he2
      · rw [hb] at hk'
        injection hk' with hk'
        injection hk' with hk'
        injection hk' with hk'
        exact absurd hk'.symm hkb
      · obtain ⟨j, hj⟩ := asking_hit w hk es (i + 1) (fun e he => h e (by simp [he])) (fun e he => hv e (by simp [he])) ⟨e', he2, hk'⟩
        refine ⟨j, ?_⟩
        unfold Instr.findAsking
        simp only [hb, Sem.run_bind, run_equal_key w hk hz, Result.andThen_ok]
        simp [hkb]
        exact hj

theorem findKey_eq (w : World) (k : Nat) (es : List MapEntry) (h : Ents w es) : (Instr.findKey 46 (kp k) es).run Ybaf.prog w = (Instr.findAsking 46 (kp k) es).run Ybaf.prog w := by
  cases es with
  | nil => simp [Instr.findKey, run_underlying Ybaf.underlying46, Instr.findNow, Instr.findAsking]
  | cons e es =>
    obtain ⟨b, hb, _⟩ := h e (by simp)
    simp [Instr.findKey, run_underlying Ybaf.underlying46, Instr.findNow, hb, kp, Instr.sameNow]

theorem check_key (w : World) (em : Bool) (k : Nat) : (Instr.checkKey em 10000 46 (kp k)).run Ybaf.prog w = .ok () w := by
  have h : ∀ n, (Instr.checkKey em (n + 1) 46 (kp k)).run Ybaf.prog w = .ok () w := fun n => by
    simp only [Instr.checkKey, Sem.run_bind, run_underlying Ybaf.underlying46, Result.andThen_ok, kp, Sem.run_pure]
  exact h 9999

theorem lookup_hit (w : World) {mb k clock : Nat} {es : Array MapEntry} {v : Value} (hm : w.heap[mb]? = some (.map es clock)) (hk : Zb w k) (h : Ents w es.toList) (hv : ∀ e ∈ es.toList, e.key = kp k → e.val = v) (hx : ∃ e ∈ es.toList, e.key = kp k) :
    (Instr.lookup 38 (.map (some mb)) (kp k) true).run Ybaf.prog w = .ok (.tuple #[v, .bool true]) w := by
  obtain ⟨j, hj⟩ := asking_hit w hk es.toList 0 h hv hx
  have h1 := findKey_eq w k es.toList h
  rw [hj] at h1
  simp [Instr.lookup, run_underlying Ybaf.underlying38, MapKept.run_getObj_map hm, check_key, h1, Result.andThen]

theorem update_miss (w : World) {mb k clock : Nat} {es : Array MapEntry} {v : Value} (hm : w.heap[mb]? = some (.map es clock)) (hk : Zb w k) (h : Ents w es.toList) (hn : ∀ e ∈ es.toList, e.key ≠ kp k) :
    (Instr.mapUpdate 38 (.map (some mb)) (kp k) v).run Ybaf.prog w = .ok () (ChangeMaps.setBlock w mb (.map (es.push { key := kp k, val := v, born := clock }) (clock + 1))) := by
  have h1 := findKey_eq w k es.toList h
  rw [asking_miss w hk es.toList 0 h hn] at h1
  simp [Instr.mapUpdate, run_underlying Ybaf.underlying38, MapKept.run_getObj_map hm, check_key, h1, MapKept.run_setObj_map _ hm, Result.andThen, ChangeMaps.setBlock]
end Go.Proofs.YbulkcoowFmt
