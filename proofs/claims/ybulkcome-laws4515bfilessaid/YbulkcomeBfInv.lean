import Derived.Test.YbulkcomeBfState
import Derived.Deep.RegionHeldLaw
import Derived.Deep.DeepCutAuto
import Derived.Deep.LoopGhost
namespace Go.Proofs.Ybulkcome
open Go.RowKit
attribute [local go_sem] bf_store_float

/-- the jobs handed in: row i of pre -/
def PreAt (w : World) (b o len : Nat) : Prop := ∀ i, i < len → ∃ d hp, (0 : Int) ≤ hp ∧ hp < 256 ∧ ∀ c, c < 11 → w.cell? ⟨b, o + i * 11 + c, none⟩ = (dval d hp)[c]?

/-- the state at the head of the loop over pre -/
def Inv (w : World) (ks : Nat) (dm ds : Dat) (pm ps : Int) (k : Nat) (wr : World) : Prop :=
  ∃ ρ V E n g, Full ρ w wr w.heap.size (w.heap.size + 1) (w.heap.size + 1 + 1) (w.heap.size + 1 + 1 + 1) (w.heap.size + 1 + 1 + 1 + 1) ks V E n n g g dm ds pm ps (.pointer none) (.pointer none) (.pointer none) ∧ ∀ h, h < 3 → n h ≤ k

theorem own_nil (w : World) (B : Nat) (f : Nat → Nat) : w.ownsRow B 30 1 (.slice none 0 0) 0 (ptrs 0 f) := ⟨rfl, Or.inl ⟨rfl, rfl⟩⟩

theorem Inv.start (w : World) (ks : Nat) (dm ds : Dat) (pm ps : Int) : Inv w ks dm ds pm ps 0
    (((((w.alloc (Obj.cells (dval dm pm) 25)).alloc (Obj.cells (dval ds ps) 25)).alloc (Obj.cells #[Value.int IntKind.i64 ↑ks, Value.slice none 0 0, Value.slice none 0 0, Value.slice none 0 0, Value.pointer none, Value.pointer none, Value.pointer none] 32)).alloc
      (Obj.cells #[Value.pointer (some { block := w.heap.size + 1 + 1, off := 1 }), Value.pointer (some { block := w.heap.size + 1 + 1, off := 2 }), Value.pointer (some { block := w.heap.size + 1 + 1, off := 3 })] 34)).alloc
      (Obj.cells #[Value.slice none 0 0, Value.slice none 0 0, Value.slice none 0 0] 35)).drew := by
  refine ⟨fun k => if k = w.heap.size then 3 else if k = w.heap.size + 1 then 3 else if k = w.heap.size + 1 + 1 then 0 else if k = w.heap.size + 1 + 1 + 1 then 1 else 2, fun _ => .slice none 0 0, fun _ => .slice none 0 0, fun _ => 0, fun _ _ => 0, ?_, fun _ _ => Nat.zero_le _⟩
  have c3 : ∀ h, h < 3 → h = 0 ∨ h = 1 ∨ h = 2 := fun h hh => by omega
  refine ⟨⟨⟨?_, ?_, ?_, ?_, ?_, fun h _ => own_nil _ _ _, ?_, ?_⟩, ?_, ?_, ?_, ?_, ?_, fun h _ => own_nil _ _ _, ?_, ?_, ?_⟩, ?_, by omega, by omega, ?_, ?_, ?_, ?_, ?_, ?_, ?_, ?_⟩
  · show (if w.heap.size + 1 + 1 = w.heap.size then 3 else if w.heap.size + 1 + 1 = w.heap.size + 1 then 3 else if w.heap.size + 1 + 1 = w.heap.size + 1 + 1 then 0 else if w.heap.size + 1 + 1 = w.heap.size + 1 + 1 + 1 then 1 else 2) = 0
    rw [if_neg (by omega), if_neg (by omega), if_pos rfl]
  · simp; omega
  · go_simp
  · intro h hh; rcases c3 h hh with rfl | rfl | rfl <;> go_simp
  · intro j; go_simp
  · intro h _ q hq; cases hq
  · intro h _ k hk; omega
  · show (if w.heap.size + 1 + 1 + 1 = w.heap.size then 3 else if w.heap.size + 1 + 1 + 1 = w.heap.size + 1 then 3 else if w.heap.size + 1 + 1 + 1 = w.heap.size + 1 + 1 then 0 else if w.heap.size + 1 + 1 + 1 = w.heap.size + 1 + 1 + 1 then 1 else 2) = 1
    rw [if_neg (by omega), if_neg (by omega), if_neg (by omega), if_pos rfl]
  · show (if w.heap.size + 1 + 1 + 1 + 1 = w.heap.size then 3 else if w.heap.size + 1 + 1 + 1 + 1 = w.heap.size + 1 then 3 else if w.heap.size + 1 + 1 + 1 + 1 = w.heap.size + 1 + 1 then 0 else if w.heap.size + 1 + 1 + 1 + 1 = w.heap.size + 1 + 1 + 1 then 1 else 2) = 2
    rw [if_neg (by omega), if_neg (by omega), if_neg (by omega), if_neg (by omega)]
  · intro h hh; rcases c3 h hh with rfl | rfl | rfl <;> go_simp
  · intro h hh; rcases c3 h hh with rfl | rfl | rfl <;> go_simp
  · intro j; go_simp
  · intro h _ q hq; cases hq
  · intro h _ k hk; omega
  · intro h _ j k hj; omega
  · exact (((((Below.refl _ _).alloc (Nat.le_refl _) _).alloc (by simp) _).alloc (by simp; omega) _).alloc (by simp; omega) _).alloc (by simp; omega) _ |>.drew
  · simp
  · simp
  · exact (((((Below.refl (w.heap.size + 1) (w.alloc (Obj.cells (dval dm pm) 25))).alloc (by simp) _).alloc (by simp) _).alloc (by simp) _).alloc (by simp) _).block w.heap.size (by omega) |>.trans (MapKept.heap_alloc w _).1
  · have h0 := (MapKept.heap_alloc (w.alloc (Obj.cells (dval dm pm) 25)) (Obj.cells (dval ds ps) 25)).1
    rw [show (w.alloc (Obj.cells (dval dm pm) 25)).heap.size = w.heap.size + 1 from by simp] at h0
    exact ((((Below.refl (w.heap.size + 1 + 1) ((w.alloc (Obj.cells (dval dm pm) 25)).alloc (Obj.cells (dval ds ps) 25))).alloc (by simp) _).alloc (by simp) _).alloc (by simp) _).block (w.heap.size + 1) (by omega) |>.trans h0
  · go_simp
  · go_simp
  · go_simp
  · intro k hk
    show (if k = w.heap.size then 3 else if k = w.heap.size + 1 then 3 else if k = w.heap.size + 1 + 1 then 0 else if k = w.heap.size + 1 + 1 + 1 then 1 else 2) = 2
    rw [if_neg (by omega), if_neg (by omega), if_neg (by omega), if_neg (by omega)]

def Head (w : World) (len ks : Nat) (dm ds : Dat) (pm ps : Int) (i : Value) (wr : World) : Prop := ∃ k : Nat, k ≤ len ∧ i = .int .i64 k ∧ Inv w ks dm ds pm ps k wr

/-- behind the append onto heap hh: the new job is not yet on the expected row -/
def Ahead (w : World) (ρ' : Nat → Nat) (N jb hh ks : Nat) (E : Nat → Value) (n : Nat → Nat) (g : Nat → Nat → Nat) (dm ds : Dat) (pm ps : Int) (wx : World) : Prop :=
  ∃ ρ2 V2, (∀ b, b < N → ρ2 b = ρ' b) ∧ Full ρ2 w wx w.heap.size (w.heap.size + 1) (w.heap.size + 1 + 1) (w.heap.size + 1 + 1 + 1) (w.heap.size + 1 + 1 + 1 + 1) ks V2 E (updV n hh (n hh + 1)) n (updV g hh (upd (g hh) (n hh) jb)) g dm ds pm ps (.pointer none) (.pointer none) (.pointer none) ∧ Zb wx jb


/-- the two places and the tallies, ahead of fileHeld -/
def Mid (w : World) (len ks : Nat) (dm ds : Dat) (pm ps : Int) (bb : Nat) (om os : Job) (wx : World) : Prop :=
  ∃ ρ V E n m g e, Full ρ w wx w.heap.size (w.heap.size + 1) (w.heap.size + 1 + 1) (w.heap.size + 1 + 1 + 1) (w.heap.size + 1 + 1 + 1 + 1) ks V E n m g e dm ds pm ps (held om) (held os) (.pointer (some ⟨bb, 0, none⟩)) ∧ Tl n m g e om os ∧ (∀ h, h < 3 → n h ≤ len) ∧
    Raw wx ρ wx.heap.size om ∧ Raw wx ρ wx.heap.size os ∧ Apart om os

/-- the job of an argument, if it is held -/
def jobOf (has : Bool) (b : Nat) (d : Dat) : Job := if has then some (b, d) else none

def MidM (w : World) (len ks : Nat) (dm ds : Dat) (pm ps : Int) (bb : Nat) (hm : Bool) (v : Value) (wx : World) : Prop := ∃ b, v = held (jobOf hm b dm) ∧ Mid w len ks dm ds pm ps bb (jobOf hm b dm) none wx
def MidS (w : World) (len ks : Nat) (dm ds : Dat) (pm ps : Int) (bb : Nat) (om : Job) (hS : Bool) (v : Value) (wx : World) : Prop := ∃ b, v = held (jobOf hS b ds) ∧ Mid w len ks dm ds pm ps bb om (jobOf hS b ds) wx

/-- a job is made -/
theorem mk_step {ρ : Nat → Nat} {w0 w w2 : World} {mb sb ob hb eb sel : Nat} {V E : Nat → Value} {n m : Nat → Nat} {g e : Nat → Nat → Nat} {dm ds : Dat} {pm ps : Int} {v4 v5 v6 : Value} (h : Full ρ w0 w mb sb ob hb eb sel V E n m g e dm ds pm ps v4 v5 v6)
    {d : Dat} {p : Int} (hw2 : w2 = (w.alloc (.cells (dval d p) 25)).alloc (.cells (jcells d) 43)) :
    ∃ ρ', (∀ b, b < w.heap.size → ρ' b = ρ b) ∧ ρ' (w.heap.size + 1) = 30 ∧ Full ρ' w0 w2 mb sb ob hb eb sel V E n m g e dm ds pm ps v4 v5 v6 ∧ JobD w2 (w.heap.size + 1) d ∧ (∀ i, i < 3 → ∀ j, j < m i → e i j ≠ w.heap.size + 1) ∧
      Below w.heap.size w w2 ∧ w2.heap.size = w.heap.size + 1 + 1 := by
  have hbw : Below w.heap.size w w2 := by rw [hw2]; exact ((Below.refl _ _).alloc (Nat.le_refl _) _).alloc (by simp) _
  have hjd : JobD w2 (w.heap.size + 1) d := by rw [hw2]; have := jobD_new (w.alloc (.cells (dval d p) 25)) d; simpa using this
  have hsz : w2.heap.size = w.heap.size + 1 + 1 := by rw [hw2]; simp
  obtain ⟨ρ', hρ', hr30, hF2⟩ := h.newJob hbw (jb := w.heap.size + 1) (by omega)
  exact ⟨ρ', hρ', hr30, hF2, hjd, fun i hi j hj => by have := (h.ls.ej i hi j hj).2.lt; omega, hbw, hsz⟩

/-- a cell of a box -/
theorem box_cell {w : World} {b : Nat} {d : Dat} {p : Int} (h : w.heap[b]? = some (.cells (dval d p) 25)) (c : Nat) : w.cell? ⟨b, c, none⟩ = (dval d p)[c]? := by
  unfold World.cell?
  simp only [h]
  rfl

theorem Raw.mono {w w' : World} {ρ ρ' : Nat → Nat} {N N' : Nat} {o : Job} (h : Raw w ρ N o) (h1 : ∀ b d, ρ b = 30 → JobD w b d → JobD w' b d) (h2 : ∀ b, b < N → ρ' b = ρ b) (h3 : N ≤ N') : Raw w' ρ' N' o := by
  cases o with
  | none => trivial
  | some p => exact ⟨h1 _ _ h.2.1 h.1, (h2 _ h.2.2).trans h.2.1, Nat.lt_of_lt_of_le h.2.2 h3⟩

theorem run_neq_job (w : World) (a : Nat) : (binOp .neq 30 (.pointer (some ⟨a, 0, none⟩)) (.pointer (some ⟨a, 0, none⟩))).run Yba.prog w = .ok (.bool false) w := by
  obtain ⟨i43, h1, h2⟩ := Option.map_eq_some_iff.1 info43
  have h : ∀ d : Nat, (Op.equalIn (d + 1) 30 (.pointer (some ⟨a, 0, none⟩)) (.pointer (some ⟨a, 0, none⟩))).run Yba.prog w = .ok true w := fun d => by
    simp [Op.equalIn, run_underlying Yba.underlying30, sizeOf, typeInfo, h1, run_sameAddr_same]
  simp only [binOp]
  simp [Op.equal, Op.maxDepth, h 9999]

/-- behind fileHeld -/
structure Aft (w : World) (ks : Nat) (dm ds : Dat) (pm ps : Int) (bb : Nat) (om os : Job) (V E : Nat → Value) (m : Nat → Nat) (g e : Nat → Nat → Nat) (w5 : World) : Prop where
  fin : Fin3 w5 w.heap.size (w.heap.size + 1 + 1) (w.heap.size + 1 + 1 + 1) (w.heap.size + 1 + 1 + 1 + 1) V E m g e
  d0 : w5.cell? ⟨w.heap.size + 1 + 1, 0, none⟩ = some (.int .i64 ks)
  d4 : w5.cell? ⟨w.heap.size + 1 + 1, 4, none⟩ = some (.pointer none)
  d5 : w5.cell? ⟨w.heap.size + 1 + 1, 5, none⟩ = some (.pointer none)
  d6 : w5.cell? ⟨w.heap.size + 1 + 1, 6, none⟩ = some (.pointer (some ⟨bb, 0, none⟩))
  fm : Filed w5 ks om
  fs : Filed w5 ks os
  bm : w5.heap[w.heap.size]? = some (.cells (dval dm pm) 25)
  bs : w5.heap[w.heap.size + 1]? = some (.cells (dval ds ps) 25)
  bl : Below w.heap.size w w5
  hm : ∀ h, h < 3 → m h ≤ 302

theorem Mid.filed {w w5 : World} {len ks : Nat} {dm ds : Dat} {pm ps : Int} {bb : Nat} {om os : Job} {wx : World} {ρ : Nat → Nat} {V E : Nat → Value} {n m : Nat → Nat} {g e : Nat → Nat → Nat}
    (hF : Full ρ w wx w.heap.size (w.heap.size + 1) (w.heap.size + 1 + 1) (w.heap.size + 1 + 1 + 1) (w.heap.size + 1 + 1 + 1 + 1) ks V E n m g e dm ds pm ps (held om) (held os) (.pointer (some ⟨bb, 0, none⟩)))
    (ht : Tl n m g e om os) (hnl : ∀ h, h < 3 → n h ≤ len) (hlen : len ≤ 300) (hs : FS ρ wx w.heap.size (w.heap.size + 1 + 1) ks n g om os w5)
    (d4 : w5.cell? ⟨w.heap.size + 1 + 1, 4, none⟩ = some (.pointer none)) (d5 : w5.cell? ⟨w.heap.size + 1 + 1, 5, none⟩ = some (.pointer none)) (fm : Filed w5 ks om) (fs : Filed w5 ks os) :
    ∃ V' g', Aft w ks dm ds pm ps bb om os V' E m g' e w5 := by
  obtain ⟨V', g', hfin⟩ := hF.ls.filed ht hs
  obtain ⟨ρ', V1, n', g1, h1, h2, h3, h4, h5, h6⟩ := hs
  have hX : ∀ k, ρ k = 3 ∨ ρ k = 2 → ¬ tagX ρ k := by
    intro k hk hx
    unfold tagX at hx
    omega
  refine ⟨V', g', hfin, h2.key, d4, d5, by rw [h6]; exact hF.c6, fm, fs, by rw [h5.block _ (lt_of_block hF.bm) (hX _ (Or.inl hF.rm))]; exact hF.bm, by rw [h5.block _ (lt_of_block hF.bs) (hX _ (Or.inl hF.rs))]; exact hF.bs, hF.bl.trans (h5.below hF.bl.size fun k hk => ?_), fun h hh => ?_⟩
  · rcases Nat.lt_or_ge k w.heap.size with hlt | hge
    · exact absurd hk (hX k (Or.inr (hF.old k hlt)))
    · exact hge
  · have q1 := (ht h hh).1
    have q2 := hnl h hh
    have q3 := cN_le om h
    have q4 := cN_le os h
    omega

/-- the form of a value that owns -/
theorem own_form {w : World} {B n : Nat} {v : Value} {g : Nat → Nat} (h : w.ownsRow B 30 1 v n (ptrs n g)) : ∃ a cap, v = .slice a n cap := by
  rcases h.2 with ⟨h0, h1⟩ | ⟨q, cap, cur, hv, _⟩
  · exact ⟨none, 0, by rw [h0, h1]⟩
  · exact ⟨_, cap, hv⟩
theorem own_at {w : World} {B n i : Nat} {a : Option Addr} {cap : Nat} {g : Nat → Nat} (h : w.ownsRow B 30 1 (.slice a n cap) n (ptrs n g)) (hi : i < n) : ∃ q, a = some ⟨q, 0, none⟩ ∧ w.cell? ⟨q, i, none⟩ = some (.pointer (some ⟨g i, 0, none⟩)) := by
  rcases h.2 with ⟨h0, h1⟩ | ⟨q, cap', cur, hv, _, h2, h3, _, h5, h6⟩
  · omega
  · injection hv with e1 e2 e3
    refine ⟨q, e1, ?_⟩
    have := congrArg (·[i]?) h6
    simp only [Nat.mul_one] at this
    rw [ptrs_get n g i hi, List.getElem?_take, if_pos hi] at this
    unfold World.cell?
    simp only [h2]
    simpa [ptr] using this
end Go.Proofs.Ybulkcome
