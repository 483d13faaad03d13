import Derived.Laws.FloatArith
import Derived.Laws.Bits64
namespace Go.Proofs.YbulkcomeDoor.Fl
open Ieee

/-- a finite word of a double, of magnitude at most '2 ^ (r - 1023)' -/
def Lim (r x : Nat) : Prop := x < 2 ^ 64 ∧ x % 2 ^ 63 ≤ r * 2 ^ 52

theorem Lim.mono {r s x : Nat} (h : Lim r x) (hs : r ≤ s) : Lim s x :=
  ⟨h.1, Nat.le_trans h.2 (Nat.mul_le_mul_right _ hs)⟩

theorem signW : double.signWeight = 2 ^ 63 := by decide
theorem bin : double.binade = 2 ^ 52 := by decide
theorem infR : double.infRung = 2047 * 2 ^ 52 := by decide
theorem leastP : double.leastPlace = -1074 := by decide
theorem fracB : double.fractionBits = 52 := rfl

theorem read_lim {r x : Nat} (h : Lim r x) (hr : 1 ≤ r) (hr2 : r ≤ 2046) :
    ∃ (m : Nat) (p : Int), double.read x = .number (x / 2 ^ 63 % 2 == 1) m p ∧ m < 2 ^ 53 ∧ -1074 ≤ p ∧ p ≤ (r : Int) - 1075 ∧
      (2 ^ 52 ≤ m ∨ p = -1074) ∧ x % 2 ^ 63 = (p + 1074).toNat * 2 ^ 52 + m := by
  obtain ⟨h1, h2⟩ := h
  unfold Format.read
  simp only [signW, bin, infR, leastP]
  by_cases a : x % 2 ^ 63 < 2 ^ 52
  · rw [if_pos a]
    exact ⟨_, _, rfl, by omega, by omega, by omega, Or.inr rfl, by simp⟩
  · rw [if_neg a, if_pos (by omega)]
    refine ⟨_, _, rfl, by omega, by omega, by omega, Or.inl (by omega), ?_⟩
    have e : (-1074 + ((x % 2 ^ 63 / 2 ^ 52 - 1 : Nat) : Int) + 1074).toNat = x % 2 ^ 63 / 2 ^ 52 - 1 := by omega
    rw [e]
    omega

theorem word_lim {r c : Nat} (s : Bool) (h : c ≤ r * 2 ^ 52) (hr : r ≤ 2046) : Lim r (double.word s c) := by
  unfold Format.word Lim
  rw [signW]
  cases s
  · simp only [Bool.false_eq_true, if_false]; omega
  · simp only [if_true]; omega

theorem cut_le (n drop : Nat) (s : Bool) : Toward.even.cut s n drop ≤ n / 2 ^ (min drop (n.log2 + 2)) + 1 := by
  unfold Toward.cut
  simp only [Nat.shiftLeft_eq, Nat.one_mul]
  have := Bool.toNat_le (decide (2 ^ min drop (n.log2 + 2) < 2 * (n % 2 ^ min drop (n.log2 + 2))) || 2 ^ min drop (n.log2 + 2) == 2 * (n % 2 ^ min drop (n.log2 + 2)) && n / 2 ^ min drop (n.log2 + 2) % 2 == 1)
  omega

theorem cut_zero (n : Nat) (s : Bool) : Toward.even.cut s n 0 = n := by
  unfold Toward.cut
  simp [Nat.mod_one]

theorem nearest_lim {r m k : Nat} (s : Bool) {p : Int} (hm : m < 2 ^ k) (hp : p + k ≤ (r : Int) - 1023) (h2 : 2 ≤ r) (hr : r ≤ 2046) : Lim r (double.nearest s m p) := by
  unfold Format.nearest
  by_cases z : m = 0
  · rw [if_pos z]
    exact word_lim s (Nat.zero_le _) hr
  · rw [if_neg z]
    simp only [fracB, leastP, bin, infR]
    have hl : m.log2 < k := (Nat.log2_lt z).2 hm
    have hm2 : m < 2 ^ (m.log2 + 1) := Nat.lt_log2_self
    generalize hL : m.log2 = L at *
    generalize hlast : max (p + (L : Int) - ((52 : Nat) : Int)) (-1074) = last
    refine word_lim s ?_ hr
    have hk : Toward.even.cut s (m <<< (p - last).toNat) (last - p).toNat ≤ 2 ^ 53 := by
      by_cases a : last ≤ p
      · have e0 : (last - p).toNat = 0 := by omega
        rw [e0, cut_zero, Nat.shiftLeft_eq]
        have b : L + 1 + (p - last).toNat ≤ 53 := by omega
        calc m * 2 ^ (p - last).toNat ≤ 2 ^ (L + 1) * 2 ^ (p - last).toNat := Nat.mul_le_mul_right _ (Nat.le_of_lt hm2)
          _ = 2 ^ (L + 1 + (p - last).toNat) := by rw [← Nat.pow_add]
          _ ≤ 2 ^ 53 := Nat.pow_le_pow_right (by decide) b
      · have e0 : (p - last).toNat = 0 := by omega
        rw [e0, Nat.shiftLeft_zero]
        refine Nat.le_trans (cut_le m _ s) ?_
        rw [hL]
        by_cases b : (last - p).toNat ≤ L + 2
        · rw [Nat.min_eq_left b]
          have : m / 2 ^ (last - p).toNat < 2 ^ 53 := by
            rw [Nat.div_lt_iff_lt_mul (Nat.two_pow_pos _), ← Nat.pow_add]
            exact Nat.lt_of_lt_of_le hm2 (Nat.pow_le_pow_right (by decide) (by omega))
          omega
        · rw [Nat.min_eq_right (by omega)]
          have : m / 2 ^ (L + 2) = 0 := Nat.div_eq_of_lt (Nat.lt_of_lt_of_le hm2 (Nat.pow_le_pow_right (by decide) (by omega)))
          rw [this]
          decide
    have hq : (last - -1074).toNat ≤ r - 2 := by omega
    have : (last - -1074).toNat * 2 ^ 52 ≤ (r - 2) * 2 ^ 52 := Nat.mul_le_mul_right _ hq
    refine Nat.le_trans (Nat.min_le_left _ _) ?_
    generalize Toward.even.cut s (m <<< (p - last).toNat) (last - p).toNat = c at hk
    generalize (last - -1074).toNat = q at hq this
    clear hm hm2 hp hlast hl hL z
    have e53 : (2 : Nat) ^ 53 = 2 * 2 ^ 52 := by decide
    rw [e53] at hk
    generalize (2 : Nat) ^ 52 = B at *
    have e : r * B = (r - 2) * B + 2 * B := by rw [← Nat.add_mul]; congr 1; omega
    rw [e]
    exact Nat.add_le_add this hk

theorem natAbs_signed (s : Bool) (m u : Nat) : (signed s m u).natAbs = m * 2 ^ u := by
  unfold signed
  cases s
  · rw [if_neg (by decide), Int.natAbs_natCast, Nat.shiftLeft_eq]
  · rw [if_pos rfl, Int.natAbs_neg, Int.natAbs_natCast, Nat.shiftLeft_eq]

theorem sum_lim {r m n : Nat} {i j : Int} (s t : Bool) (hm : m < 2 ^ 53) (hn : n < 2 ^ 53) (hi : i ≤ (r : Int) - 1075) (hj : j ≤ (r : Int) - 1075) (hr2 : r + 2 ≤ 2046) :
    ∃ d, Datum.sum (.number s m i) (.number t n j) = some d ∧ Lim (r + 2) (double.write d) := by
  refine ⟨_, rfl, ?_⟩
  show Lim (r + 2) (double.nearest _ _ _)
  generalize hb : min i j = base
  refine nearest_lim (k := 54 + ((r : Int) - 1075 - base).toNat) _ ?_ (by omega) (by omega) hr2
  have h1 := natAbs_signed s m (i - base).toNat
  have h2 := natAbs_signed t n (j - base).toNat
  have e1 : m * 2 ^ (i - base).toNat < 2 ^ 53 * 2 ^ ((r : Int) - 1075 - base).toNat :=
    Nat.lt_of_le_of_lt (Nat.mul_le_mul_left _ (Nat.pow_le_pow_right (by decide) (by omega))) (Nat.mul_lt_mul_of_pos_right hm (Nat.two_pow_pos _))
  have e2 : n * 2 ^ (j - base).toNat < 2 ^ 53 * 2 ^ ((r : Int) - 1075 - base).toNat :=
    Nat.lt_of_le_of_lt (Nat.mul_le_mul_left _ (Nat.pow_le_pow_right (by decide) (by omega))) (Nat.mul_lt_mul_of_pos_right hn (Nat.two_pow_pos _))
  have e3 : 2 ^ (54 + ((r : Int) - 1075 - base).toNat) = 2 * (2 ^ 53 * 2 ^ ((r : Int) - 1075 - base).toNat) := by
    rw [Nat.pow_add, ← Nat.mul_assoc]
  rw [e3]
  generalize 2 ^ 53 * 2 ^ ((r : Int) - 1075 - base).toNat = B at *
  omega

theorem add_lim {r x y : Nat} (hx : Lim r x) (hy : Lim r y) (hr : 1 ≤ r) (hr2 : r + 2 ≤ 2046) : ∃ z, double.add x y = some z ∧ Lim (r + 2) z := by
  obtain ⟨m, i, hi, hm, _, hi2, _, _⟩ := read_lim hx hr (by omega)
  obtain ⟨n, j, hj, hn, _, hj2, _, _⟩ := read_lim hy hr (by omega)
  unfold Format.add
  rw [hi, hj]
  obtain ⟨d, e, l⟩ := sum_lim (x / 2 ^ 63 % 2 == 1) (y / 2 ^ 63 % 2 == 1) hm hn hi2 hj2 hr2
  exact ⟨_, by rw [e]; rfl, l⟩

theorem sub_lim {r x y : Nat} (hx : Lim r x) (hy : Lim r y) (hr : 1 ≤ r) (hr2 : r + 2 ≤ 2046) : ∃ z, double.sub x y = some z ∧ Lim (r + 2) z := by
  obtain ⟨m, i, hi, hm, _, hi2, _, _⟩ := read_lim hx hr (by omega)
  obtain ⟨n, j, hj, hn, _, hj2, _, _⟩ := read_lim hy hr (by omega)
  unfold Format.sub
  rw [hi, hj]
  obtain ⟨d, e, l⟩ := sum_lim (x / 2 ^ 63 % 2 == 1) (!(y / 2 ^ 63 % 2 == 1)) hm hn hi2 hj2 hr2
  exact ⟨_, by rw [show (Datum.number (y / 2 ^ 63 % 2 == 1) n j).opposite = .number (!(y / 2 ^ 63 % 2 == 1)) n j from rfl, e]; rfl, l⟩

theorem mul_lim {r q R x y : Nat} (hx : Lim r x) (hy : Lim q y) (hr : 1 ≤ r) (hr2 : r ≤ 2046) (hq : 1 ≤ q) (hq2 : q ≤ 2046) (hR : r + q ≤ R + 1021) (h2 : 2 ≤ R) (hR2 : R ≤ 2046) :
    ∃ z, double.mul x y = some z ∧ Lim R z := by
  obtain ⟨m, i, hi, hm, _, hi2, _, _⟩ := read_lim hx hr hr2
  obtain ⟨n, j, hj, hn, _, hj2, _, _⟩ := read_lim hy hq hq2
  unfold Format.mul
  rw [hi, hj]
  refine ⟨_, rfl, ?_⟩
  show Lim R (double.nearest _ _ _)
  refine nearest_lim (k := 106) _ ?_ (by omega) h2 hR2
  calc m * n < 2 ^ 53 * 2 ^ 53 := Nat.mul_lt_mul'' hm hn
    _ = 2 ^ 106 := by decide

theorem two_read : double.read 4611686018427387904 = .number false (2 ^ 52) (-51) := by decide

theorem half_lim {r x : Nat} (hx : Lim r x) (hr : 2 ≤ r) (hr2 : r ≤ 2046) : ∃ z, double.div x 4611686018427387904 = some z ∧ Lim r z := by
  obtain ⟨m, i, hi, hm, _, hi2, _, _⟩ := read_lim hx (by omega) hr2
  unfold Format.div
  rw [hi, two_read]
  have hn : ¬ ((2 : Nat) ^ 52 = 0) := by decide
  have hl2 : ((2 : Nat) ^ 52).log2 = 52 := Nat.log2_two_pow
  simp only [Datum.quotient, hn, if_false, Option.map_some, fracB, hl2]
  refine ⟨_, rfl, ?_⟩
  show Lim r (double.nearest _ _ _)
  have hL : m.log2 ≤ 52 := by
    by_cases z : m = 0
    · subst z; decide
    · exact Nat.le_of_lt_succ ((Nat.log2_lt z).2 hm)
  refine nearest_lim (k := 56) _ ?_ (by omega) hr hr2
  have h3 : m <<< (52 + 2 + 52 - m.log2) < 2 ^ 107 := by
    rw [Nat.shiftLeft_eq]
    have : m < 2 ^ (m.log2 + 1) := Nat.lt_log2_self
    calc m * 2 ^ (52 + 2 + 52 - m.log2) < 2 ^ (m.log2 + 1) * 2 ^ (52 + 2 + 52 - m.log2) := Nat.mul_lt_mul_of_pos_right this (Nat.two_pow_pos _)
      _ = 2 ^ 107 := by rw [← Nat.pow_add]; congr 1; omega
  have h4 : m <<< (52 + 2 + 52 - m.log2) / 2 ^ 52 < 2 ^ 55 := by
    rw [Nat.div_lt_iff_lt_mul (by decide)]
    exact Nat.lt_of_lt_of_le h3 (by decide)
  have h5 := Bool.toNat_le (m <<< (52 + 2 + 52 - m.log2) % 2 ^ 52 != 0)
  have e56 : (2 : Nat) ^ 56 = 2 * 2 ^ 55 := by decide
  rw [e56]
  generalize m <<< (52 + 2 + 52 - m.log2) / 2 ^ 52 = A at *
  generalize (m <<< (52 + 2 + 52 - m.log2) % 2 ^ 52 != 0).toNat = C at *
  clear h3 e56
  generalize (2 : Nat) ^ 55 = B at *
  omega

theorem ofInt_lim {n : Int} (h : n.natAbs < 2 ^ 32) : Lim 1055 (FloatKind.f64.nearest n) := by
  show Lim 1055 (double.nearest _ _ _)
  exact nearest_lim (k := 32) _ h (by decide) (by decide) (by decide)

theorem order_self {r x : Nat} (hx : Lim r x) (hr : 1 ≤ r) (hr2 : r ≤ 2046) : double.order x x = some .eq := by
  obtain ⟨m, i, hi, _⟩ := read_lim hx hr hr2
  unfold Format.order
  rw [hi]
  simp [Datum.order]

def Zero (z : Nat) : Prop := z = 0 ∨ z = 2 ^ 63

theorem log2_mul_pow {m : Nat} (u : Nat) (h : m ≠ 0) : (m * 2 ^ u).log2 = m.log2 + u := by
  have h1 : m * 2 ^ u ≠ 0 := Nat.mul_ne_zero h (Nat.ne_of_gt (Nat.two_pow_pos _))
  have a : m.log2 + u ≤ (m * 2 ^ u).log2 := by
    rw [Nat.le_log2 h1, Nat.pow_add]
    exact Nat.mul_le_mul_right _ (Nat.log2_self_le h)
  have b : (m * 2 ^ u).log2 < m.log2 + u + 1 := by
    rw [Nat.log2_lt h1, show m.log2 + u + 1 = m.log2 + 1 + u from by omega, Nat.pow_add]
    exact Nat.mul_lt_mul_of_pos_right Nat.lt_log2_self (Nat.two_pow_pos _)
  omega

theorem cut_exact (s : Bool) (m u L : Nat) (h : (m * 2 ^ u).log2 = L + u) : Toward.even.cut s (m * 2 ^ u) u = m := by
  unfold Toward.cut
  rw [h, Nat.min_eq_left (by omega)]
  simp only [Nat.shiftLeft_eq, Nat.one_mul]
  rw [Nat.mul_div_cancel _ (Nat.two_pow_pos _), Nat.mul_mod_left]
  have : 0 < 2 ^ u := Nat.two_pow_pos u
  have h1 : ¬ (2 ^ u < 2 * 0) := by omega
  have h2 : (2 ^ u == 2 * 0) = false := by rw [beq_eq_false_iff_ne]; omega
  rw [h2]
  simp

theorem nearest_exact (s : Bool) {m u : Nat} (h0 : m ≠ 0) (h1 : m < 2 ^ 53) (h2 : 2 ^ 52 ≤ m ∨ u = 0) (h3 : u * 2 ^ 52 + m ≤ 2047 * 2 ^ 52) :
    double.nearest s (m * 2 ^ u) (-1074) = double.word s (u * 2 ^ 52 + m) := by
  have hl := log2_mul_pow u h0
  unfold Format.nearest
  rw [if_neg (Nat.mul_ne_zero h0 (Nat.ne_of_gt (Nat.two_pow_pos _)))]
  simp only [fracB, leastP, bin, infR, hl]
  have b1 : m.log2 < 53 := (Nat.log2_lt h0).2 h1
  have b2 : u = 0 ∨ m.log2 = 52 := by
    rcases h2 with h2 | h2
    · have : 52 ≤ m.log2 := (Nat.le_log2 h0).2 h2
      exact Or.inr (by omega)
    · exact Or.inl h2
  have el : max ((-1074 : Int) + ((m.log2 + u : Nat) : Int) - ((52 : Nat) : Int)) (-1074) = -1074 + (u : Int) := by omega
  rw [el]
  have e1 : ((-1074 : Int) - (-1074 + (u : Int))).toNat = 0 := by omega
  have e2 : ((-1074 : Int) + (u : Int) - -1074).toNat = u := by omega
  rw [e1, e2, Nat.shiftLeft_zero, cut_exact s m u m.log2 hl, Nat.min_eq_left h3]

theorem word_read {r x : Nat} (h : Lim r x) (hr2 : r ≤ 2046) : double.word (x / 2 ^ 63 % 2 == 1) (x % 2 ^ 63) = x := by
  obtain ⟨h1, h2⟩ := h
  unfold Format.word
  rw [signW]
  by_cases a : x / 2 ^ 63 % 2 = 1
  · rw [if_pos (beq_iff_eq.2 a)]; omega
  · rw [if_neg (by rw [beq_iff_eq]; exact a)]; omega

theorem sum_zero {r x : Nat} {t : Bool} (hx : Lim r x) (hr : 1 ≤ r) (hr2 : r ≤ 2046) (hn : x ≠ 2 ^ 63) :
    ((double.read x).sum (.number t 0 (-1074))).map double.write = some x ∧ (Datum.sum (.number t 0 (-1074)) (double.read x)).map double.write = some x := by
  obtain ⟨m, p, hi, hm, hp1, _, hp3, hx2⟩ := read_lim hx hr hr2
  rw [hi]
  have hb : min p (-1074) = -1074 := by omega
  have hb' : min (-1074) p = -1074 := by omega
  simp only [Datum.sum, hb, hb', Option.map_some, Option.some.injEq]
  have z0 : signed t 0 ((-1074 : Int) - -1074).toNat = 0 := by cases t <;> rfl
  rw [z0, Int.add_zero, Int.zero_add]
  show double.nearest _ _ _ = x ∧ double.nearest _ _ _ = x
  rw [natAbs_signed]
  have eu : (p - -1074).toNat = (p + 1074).toNat := by omega
  rw [eu]
  generalize hu : (p + 1074).toNat = u at *
  have hx1 := hx.1
  have hxl := hx.2
  by_cases z : m = 0
  · subst z
    have hu0 : u = 0 := by omega
    subst hu0
    have hx0 : x = 0 := by omega
    subst hx0
    simp [Format.nearest, Format.word, signed]
  · have hw := word_read hx hr2
    have sg : ∀ b : Bool, (if signed (x / 2 ^ 63 % 2 == 1) m u = 0 then b else decide (signed (x / 2 ^ 63 % 2 == 1) m u < 0)) = (x / 2 ^ 63 % 2 == 1) := by
      intro b
      have hpos : 0 < m * 2 ^ u := Nat.mul_pos (by omega) (Nat.two_pow_pos _)
      unfold signed
      rw [Nat.shiftLeft_eq]
      generalize m * 2 ^ u = M at hpos
      cases (x / 2 ^ 63 % 2 == 1)
      · simp only [Bool.false_eq_true, if_false]
        rw [if_neg (by omega)]
        exact decide_eq_false (by omega)
      · simp only [if_true]
        rw [if_neg (by omega)]
        exact decide_eq_true (by omega)
    rw [sg, sg, nearest_exact _ z hm (by omega) (by omega), ← hx2, hw]
    exact ⟨rfl, rfl⟩

theorem read_zero : double.read 0 = .number false 0 (-1074) := by decide
theorem read_negzero : double.read (2 ^ 63) = .number true 0 (-1074) := by decide

theorem add_zero {r x : Nat} (hx : Lim r x) (hr : 1 ≤ r) (hr2 : r ≤ 2046) (hn : x ≠ 2 ^ 63) : double.add x 0 = some x := by
  unfold Format.add; rw [read_zero]; exact (sum_zero hx hr hr2 hn).1
theorem zero_add {r x : Nat} (hx : Lim r x) (hr : 1 ≤ r) (hr2 : r ≤ 2046) (hn : x ≠ 2 ^ 63) : double.add 0 x = some x := by
  unfold Format.add; rw [read_zero]; exact (sum_zero hx hr hr2 hn).2
theorem sub_zero {r x z : Nat} (hx : Lim r x) (hr : 1 ≤ r) (hr2 : r ≤ 2046) (hn : x ≠ 2 ^ 63) (hz : Zero z) : double.sub x z = some x := by
  unfold Format.sub
  rcases hz with rfl | rfl
  · rw [read_zero]; exact (sum_zero hx hr hr2 hn).1
  · rw [read_negzero]; exact (sum_zero hx hr hr2 hn).1

theorem zero_mul {r x : Nat} (hx : Lim r x) (hr : 1 ≤ r) (hr2 : r ≤ 2046) : ∃ z, double.mul 0 x = some z ∧ Zero z := by
  obtain ⟨m, p, hi, _⟩ := read_lim hx hr hr2
  unfold Format.mul
  rw [hi, read_zero]
  refine ⟨_, rfl, ?_⟩
  show Zero (double.nearest _ _ _)
  rw [Nat.zero_mul]
  unfold Format.nearest
  rw [if_pos rfl]
  unfold Format.word Zero
  rw [signW]
  cases (false ^^ (x / 2 ^ 63 % 2 == 1)) <;> simp

theorem nearest_ge {m : Nat} (s : Bool) {p : Int} {q : Nat} (h0 : m ≠ 0) (hp : (q : Int) - 1074 ≤ p + m.log2 - 52) (hq : q ≤ 2046) : q * 2 ^ 52 ≤ double.nearest s m p % 2 ^ 63 := by
  unfold Format.nearest
  rw [if_neg h0]
  simp only [fracB, leastP, bin, infR]
  generalize Toward.even.cut s _ _ = c
  generalize hl : max (p + (m.log2 : Int) - ((52 : Nat) : Int)) (-1074) = last
  have hq2 : q ≤ (last - -1074).toNat := by omega
  generalize (last - -1074).toNat = u at hq2
  have h1 : q * 2 ^ 52 ≤ u * 2 ^ 52 := Nat.mul_le_mul_right _ hq2
  have h2 : q * 2 ^ 52 ≤ min (u * 2 ^ 52 + c) (2047 * 2 ^ 52) := by
    refine Nat.le_min.2 ⟨Nat.le_trans h1 (Nat.le_add_right _ _), Nat.mul_le_mul_right _ (by omega)⟩
  have h3 : min (u * 2 ^ 52 + c) (2047 * 2 ^ 52) ≤ 2047 * 2 ^ 52 := Nat.min_le_right _ _
  generalize min (u * 2 ^ 52 + c) (2047 * 2 ^ 52) = R at h2 h3
  have h4 : double.word s R % 2 ^ 63 = R := by
    unfold Format.word
    rw [signW]
    cases s
    · rw [if_neg (by decide)]; omega
    · rw [if_pos rfl]; omega
  rw [h4]
  exact h2

theorem ofInt_ge {n : Int} (h : n ≠ 0) : 1000 * 2 ^ 52 ≤ FloatKind.f64.nearest n % 2 ^ 63 :=
  nearest_ge (q := 1000) _ (by omega) (by omega) (by decide)

theorem ofInt_zero : FloatKind.f64.nearest 0 = 0 := by decide

theorem mul_ne {r q x y z : Nat} (hx : Lim r x) (hy : Lim q y) (hr : 1 ≤ r) (hr2 : r ≤ 2046) (hq : 1 ≤ q) (hq2 : q ≤ 2046) (gx : 1000 * 2 ^ 52 ≤ x % 2 ^ 63) (gy : 1000 * 2 ^ 52 ≤ y % 2 ^ 63)
    (h : double.mul x y = some z) : z ≠ 2 ^ 63 := by
  obtain ⟨m, i, hi, hm, hi1, _, hi3, hi4⟩ := read_lim hx hr hr2
  obtain ⟨n, j, hj, hn, hj1, _, hj3, hj4⟩ := read_lim hy hq hq2
  unfold Format.mul at h
  rw [hi, hj] at h
  obtain rfl : double.nearest _ _ _ = z := Option.some.inj h
  have a1 : (998 : Int) ≤ i + 1074 := by omega
  have a2 : (998 : Int) ≤ j + 1074 := by omega
  have b1 : 2 ^ 52 ≤ m := by omega
  have b2 : 2 ^ 52 ≤ n := by omega
  have c1 : 2 ^ 104 ≤ m * n := Nat.le_trans (by decide) (Nat.mul_le_mul b1 b2)
  have c0 : m * n ≠ 0 := fun e => by rw [e] at c1; exact absurd c1 (by decide)
  have c2 : 104 ≤ (m * n).log2 := (Nat.le_log2 c0).2 c1
  have := nearest_ge (p := i + j) (q := 1) ((x / 2 ^ 63 % 2 == 1) ^^ (y / 2 ^ 63 % 2 == 1)) c0 (by omega) (by decide)
  intro e
  rw [e] at this
  exact absurd this (by decide)

theorem abs_bits (z : Nat) : bits .andNot .u64 (z : Int) 9223372036854775808 = ((z % 2 ^ 63 : Nat) : Int) := by
  show IntKind.u64.wrap ((BitVec.ofInt 64 (z : Int) &&& ~~~ BitVec.ofInt 64 9223372036854775808).toNat : Int) = _
  have h2 : ~~~ BitVec.ofInt 64 9223372036854775808 = BitVec.ofNat 64 (2 ^ 63 - 1) := by decide
  rw [h2, BitVec.toNat_and, BitVec.ofInt_natCast, BitVec.toNat_ofNat, BitVec.toNat_ofNat, Nat.mod_eq_of_lt (a := 2 ^ 63 - 1) (by decide), Nat.and_two_pow_sub_one_eq_mod, IntKind.wrap_u64]
  omega

theorem abs_lim {r z : Nat} (h : Lim r z) : Lim r (z % 2 ^ 63) := by
  obtain ⟨h1, h2⟩ := h
  unfold Lim
  omega
end Go.Proofs.YbulkcomeDoor.Fl
