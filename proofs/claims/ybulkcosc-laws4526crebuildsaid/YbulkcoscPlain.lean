import Derived.Test.YbulkcoscAtom
namespace Go.Proofs.Ybulkcosc
open Go.RowKit

def upd {α : Type} (E : Nat → α) (j : Nat) (v : α) : Nat → α := fun i => if i = j then v else E i
theorem upd_same {α : Type} (E : Nat → α) (j : Nat) (v : α) : upd E j v j = v := by simp [upd]
theorem upd_other {α : Type} (E : Nat → α) {j i : Nat} (v : α) (h : i ≠ j) : upd E j v i = E i := by simp [upd, h]

/-- how many of the first n slots hold a pointer -/
def cnt (E : Nat → Option Nat) : Nat → Nat
  | 0 => 0
  | n + 1 => cnt E n + if (E n).isSome then 1 else 0
/-- does the slot hold an entry: neither nothing nor the mark -/
def lv (db : Nat) : Option Nat → Bool
  | none => false
  | some b => b != db
def cl (db : Nat) (E : Nat → Option Nat) : Nat → Nat
  | 0 => 0
  | n + 1 => cl db E n + if lv db (E n) then 1 else 0

theorem cnt_congr {E F : Nat → Option Nat} : ∀ {n : Nat}, (∀ j, j < n → E j = F j) → cnt E n = cnt F n
  | 0, _ => rfl
  | n + 1, h => by unfold cnt; rw [cnt_congr (fun j hj => h j (by omega)), h n (by omega)]
theorem cl_congr {db : Nat} {E F : Nat → Option Nat} : ∀ {n : Nat}, (∀ j, j < n → E j = F j) → cl db E n = cl db F n
  | 0, _ => rfl
  | n + 1, h => by unfold cl; rw [cl_congr (fun j hj => h j (by omega)), h n (by omega)]
theorem cnt_le (E : Nat → Option Nat) : ∀ n, cnt E n ≤ n
  | 0 => Nat.le_refl _
  | n + 1 => by have := cnt_le E n; unfold cnt; split <;> omega
theorem cl_le (db : Nat) (E : Nat → Option Nat) : ∀ n, cl db E n ≤ n
  | 0 => Nat.le_refl _
  | n + 1 => by have := cl_le db E n; unfold cl; split <;> omega
theorem cl_mono (db : Nat) (E : Nat → Option Nat) (k : Nat) : ∀ n, k ≤ n → cl db E k ≤ cl db E n
  | 0, h => by have : k = 0 := by omega
               subst this; exact Nat.le_refl _
  | n + 1, h => by
    by_cases e : k = n + 1
    · subst e; exact Nat.le_refl _
    · have := cl_mono db E k n (by omega)
      show cl db E k ≤ cl db E n + _
      omega
theorem cnt_full {E : Nat → Option Nat} : ∀ {n : Nat}, (∀ j, j < n → E j ≠ none) → cnt E n = n
  | 0, _ => rfl
  | n + 1, h => by
    have h1 := cnt_full (E := E) (n := n) (fun j hj => h j (by omega))
    have h2 : (E n).isSome = true := by
      cases e : E n with
      | none => exact absurd e (h n (by omega))
      | some b => rfl
    unfold cnt
    rw [h1, h2]
    simp
theorem cnt_upd {E : Nat → Option Nat} {j b : Nat} (h0 : E j = none) : ∀ {n : Nat}, j < n → cnt (upd E j (some b)) n = cnt E n + 1
  | 0, h => by omega
  | n + 1, h => by
    by_cases e : j = n
    · subst e
      have h1 : cnt (upd E j (some b)) j = cnt E j := cnt_congr fun i hi => upd_other _ _ (by omega)
      unfold cnt
      rw [h1, upd_same, h0]
      simp
    · have h1 := cnt_upd (b := b) h0 (n := n) (by omega)
      unfold cnt
      rw [h1, upd_other _ _ (by omega)]
      omega

/-- every slot is on the way -/
theorem on_way {N h j : Nat} (hj : j < N) : ∃ d, d < N ∧ (h + d) % N = j := by
  have hr : h % N < N := Nat.mod_lt _ (by omega)
  have hd := Nat.div_add_mod h N
  by_cases hle : h % N ≤ j
  · refine ⟨j - h % N, by omega, ?_⟩
    have : h + (j - h % N) = j + N * (h / N) := by omega
    rw [this, Nat.add_mul_mod_self_left, Nat.mod_eq_of_lt hj]
  · refine ⟨j + N - h % N, by omega, ?_⟩
    have : h + (j + N - h % N) = j + N * (h / N) + N := by omega
    rw [this, Nat.add_mod_right, Nat.add_mul_mod_self_left, Nat.mod_eq_of_lt hj]

/-- a table that is not full has an empty slot on every way -/
theorem not_full {E : Nat → Option Nat} {N h : Nat} (hc : cnt E N < N) (hall : ∀ d, d < N → E ((h + d) % N) ≠ none) : False := by
  have : cnt E N = N := cnt_full fun j hj => by
    obtain ⟨d, hd, he⟩ := on_way (h := h) hj
    rw [← he]
    exact hall d hd
  omega

def Reach (N : Nat) (E : Nat → Option Nat) (b h : Nat) : Prop := ∃ d, d < N ∧ E ((h + d) % N) = some b ∧ ∀ d', d' < d → E ((h + d') % N) ≠ none

/-- the new table (F, G) behind the first k slots of the old one (E, H) -/
structure Good (N db : Nat) (E : Nat → Option Nat) (H : Nat → Nat) (k : Nat) (F : Nat → Option Nat) (G : Nat → Nat) : Prop where
  reach : ∀ i b, i < k → E i = some b → b ≠ db → Reach N F b (H i)
  hash : ∀ i b, i < k → E i = some b → b ≠ db → ∀ j, j < N → F j = some b → G j = H i
  count : cnt F N = cl db E k
  from_ : ∀ j b, j < N → F j = some b → ∃ i, i < k ∧ E i = some b ∧ b ≠ db

/-- no entry lies at two slots -/
def Apart (db : Nat) (E : Nat → Option Nat) (n : Nat) : Prop := ∀ i j b, i < n → j < n → E i = some b → E j = some b → b ≠ db → i = j

theorem cnt_zero : ∀ (n : Nat), cnt (fun _ => none) n = 0
  | 0 => rfl
  | n + 1 => by unfold cnt; rw [cnt_zero n]; rfl
theorem Good.start (N db : Nat) (E : Nat → Option Nat) (H : Nat → Nat) : Good N db E H 0 (fun _ => none) (fun _ => 0) :=
  ⟨fun _ _ h => by omega, fun _ _ h => by omega, cnt_zero N, fun _ _ _ h => by cases h⟩

theorem Good.skip {N db k : Nat} {E F : Nat → Option Nat} {H G : Nat → Nat} (h : Good N db E H k F G) (hk : lv db (E k) = false) : Good N db E H (k + 1) F G := by
  have hne : ∀ i b, i < k + 1 → E i = some b → b ≠ db → i < k := by
    intro i b hi he hb
    by_cases e : i = k
    · subst e; rw [he] at hk; simp [lv] at hk; exact absurd hk hb
    · omega
  refine ⟨fun i b hi he hb => h.reach i b (hne i b hi he hb) he hb, fun i b hi he hb => h.hash i b (hne i b hi he hb) he hb, ?_, fun j b hj hf => ?_⟩
  · rw [h.count]
    show cl db E k = cl db E k + if lv db (E k) then 1 else 0
    rw [hk]
    simp
  · obtain ⟨i, hi, h2⟩ := h.from_ j b hj hf
    exact ⟨i, by omega, h2⟩

theorem Good.put {N db n k b d : Nat} {E F : Nat → Option Nat} {H G : Nat → Nat} (h : Good N db E H k F G) (ha : Apart db E n) (hk : k < n) (he : E k = some b) (hb : b ≠ db) (hd : d < N)
    (h0 : F ((H k + d) % N) = none) (hw : ∀ d', d' < d → F ((H k + d') % N) ≠ none) :
    Good N db E H (k + 1) (upd F ((H k + d) % N) (some b)) (upd G ((H k + d) % N) (H k)) := by
  have hj : (H k + d) % N < N := Nat.mod_lt _ (by omega)
  have hsome : ∀ i, F i ≠ none → upd F ((H k + d) % N) (some b) i = F i := by
    intro i hi
    refine upd_other _ _ ?_
    intro e
    rw [e] at hi
    exact hi h0
  have hns : ∀ i, F i ≠ none → upd F ((H k + d) % N) (some b) i ≠ none := fun i hi => by rw [hsome i hi]; exact hi
  have hfresh : ∀ j, j < N → F j ≠ some b := by
    intro j hj hf
    obtain ⟨i, hi, h2, _⟩ := h.from_ j b hj hf
    have := ha i k b (by omega) hk h2 he hb
    omega
  refine ⟨fun i c hi hc hcb => ?_, fun i c hi hc hcb j hj2 hf => ?_, ?_, fun j c hj2 hf => ?_⟩
  · by_cases e : i = k
    · subst e
      rw [he] at hc
      cases hc
      exact ⟨d, hd, upd_same _ _ _, fun d' hd' => hns _ (hw d' hd')⟩
    · obtain ⟨d2, h1, h2, h3⟩ := h.reach i c (by omega) hc hcb
      exact ⟨d2, h1, by rw [hsome _ (by rw [h2]; simp)]; exact h2, fun d' hd' => hns _ (h3 d' hd')⟩
  · by_cases ej : j = (H k + d) % N
    · subst ej
      rw [upd_same] at hf
      cases hf
      have := ha i k b (by omega) hk hc he hb
      subst this
      rw [upd_same]
    · rw [upd_other _ _ ej] at hf
      rw [upd_other _ _ ej]
      by_cases e : i = k
      · subst e
        rw [he] at hc
        cases hc
        exact absurd hf (hfresh j hj2)
      · exact h.hash i c (by omega) hc hcb j hj2 hf
  · rw [cnt_upd h0 hj, h.count]
    show cl db E k + 1 = cl db E k + if lv db (E k) then 1 else 0
    rw [he]
    simp [lv, hb]
  · by_cases ej : j = (H k + d) % N
    · subst ej
      rw [upd_same] at hf
      cases hf
      exact ⟨k, by omega, he, hb⟩
    · rw [upd_other _ _ ej] at hf
      obtain ⟨i, hi, h2⟩ := h.from_ j c hj2 hf
      exact ⟨i, by omega, h2⟩

/-! ### the mask -/
theorem and_mask (x p : Nat) (hx : x < 2 ^ 64) (hp : p ≤ 63) : bits .and .u64 (x : Int) (((2 ^ p : Nat) : Int) - 1) = ((x % 2 ^ p : Nat) : Int) := by
  have h1 : 0 < 2 ^ p := Nat.two_pow_pos p
  have hp2 : 2 ^ p ≤ 2 ^ 63 := Nat.pow_le_pow_right (by decide) hp
  have e : (((2 ^ p : Nat) : Int) - 1) = ((2 ^ p - 1 : Nat) : Int) := by omega
  rw [e]
  have hl : (2 ^ p - 1 : Nat) < 2 ^ 64 := by omega
  have hm : x % 2 ^ p < 2 ^ 64 := Nat.lt_of_le_of_lt (Nat.mod_le _ _) hx
  have e2 : (BitVec.ofInt 64 (x : Int) &&& BitVec.ofInt 64 ((2 ^ p - 1 : Nat) : Int)).toNat = x % 2 ^ p := by
    rw [BitVec.ofInt_natCast, BitVec.ofInt_natCast, BitVec.toNat_and, BitVec.toNat_ofNat, BitVec.toNat_ofNat, Nat.mod_eq_of_lt hx, Nat.mod_eq_of_lt hl, Nat.and_two_pow_sub_one_eq_mod]
  show IntKind.u64.wrap (((BitVec.ofInt 64 (x : Int) &&& BitVec.ofInt 64 ((2 ^ p - 1 : Nat) : Int)).toNat : Nat) : Int) = _
  rw [e2, IntKind.wrap_u64]
  omega
end Go.Proofs.Ybulkcosc
