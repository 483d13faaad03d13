import Derived.Test.YbulkcomeBfMk
import Derived.LaidEqlPtr
namespace Go.Proofs.Ybulkcome
open Go.RowKit
attribute [local go_sem] bf_store_float

set_option maxHeartbeats 1000000 in
theorem where_any (d : Dat) (hp : Int) (w : World) :
    Calls Yba.prog 7 #[.agg (dval d hp)] w fun e w' => e = .returned (.int .i64 (whereOf d)) ∧ w' = w.alloc (.cells (dval d hp) 25) := by
  obtain ⟨mh, ml, sh, sl, at_, kh, kl, ks, fol, seq⟩ := d
  unfold dval
  simp only
  cases hm : gtB mh 0
  · rw [show whereOf ⟨mh, ml, sh, sl, at_, kh, kl, ks, fol, seq⟩ = 2 from by simp [whereOf, hm]]
    unfold gtB at hm
    go_enter Yba.func7, Yba.ntmps7
    go_wp2
    go_ret
    exact ⟨rfl, rfl⟩
  · cases fol
    · cases hb : gtB sh 0
      · rw [show whereOf ⟨mh, ml, sh, sl, at_, kh, kl, ks, false, seq⟩ = 0 from by simp [whereOf, hm, hb]]
        unfold gtB at hm hb
        go_enter Yba.func7, Yba.ntmps7
        go_wp2
        go_ret
        exact ⟨rfl, rfl⟩
      · rw [show whereOf ⟨mh, ml, sh, sl, at_, kh, kl, ks, false, seq⟩ = 1 from by simp [whereOf, hm, hb]]
        unfold gtB at hm hb
        go_enter Yba.func7, Yba.ntmps7
        go_wp2
        go_ret
        exact ⟨rfl, rfl⟩
    · rw [show whereOf ⟨mh, ml, sh, sl, at_, kh, kl, ks, true, seq⟩ = 0 from by simp [whereOf, hm]]
      unfold gtB at hm
      go_enter Yba.func7, Yba.ntmps7
      go_wp2
      go_ret
      exact ⟨rfl, rfl⟩

theorem cnt_le (n : Nat) (g : Nat → Nat) (x : Nat) : cnt n g x ≤ n := by
  induction n with
  | zero => exact Nat.le_refl _
  | succ n ih => unfold cnt; split <;> omega

theorem info43 : (Yba.prog.info? 43).map (·.size) = some 62 := by kernel_rfl

/-- '==' on two job pointers -/
theorem run_eql_job (w : World) {a b : Nat} (ha : Zb w a) (hb : Zb w b) : (binOp .eql 30 (.pointer (some ⟨a, 0, none⟩)) (.pointer (some ⟨b, 0, none⟩))).run Yba.prog w = .ok (.bool (a == b)) w := by
  obtain ⟨i43, h1, h2⟩ := Option.map_eq_some_iff.1 info43
  by_cases e : a = b
  · subst e
    rw [run_eql_ptr_same w ⟨a, 0, none⟩ Yba.underlying30 h1]
    simp
  · obtain ⟨ca, ta, ha⟩ := ha
    obtain ⟨cb, tb, hb⟩ := hb
    rw [run_eql_ptr_other w Yba.underlying30 h1 (by omega) (by intro h; injection h with h; exact e h) ha hb]
    simp [e]

set_option maxHeartbeats 1000000 in
theorem count_some (q n cap jb : Nat) (g : Nat → Nat) (w : World) (hn : n ≤ 1000) (hc : ∀ k, k < n → w.cell? ⟨q, k, none⟩ = some (.pointer (some ⟨g k, 0, none⟩))) (hz : ∀ k, k < n → Zb w (g k)) (hj : Zb w jb) :
    Calls Yba.prog 9 #[.slice (some ⟨q, 0, none⟩) n cap, .pointer (some ⟨jb, 0, none⟩)] w fun e w' => e = .returned (.int .i64 (cnt n g jb)) ∧ w' = w := by
  have HC := hide hc
  have HZ := hide hz
  clear hc hz
  go_enter Yba.func9, Yba.ntmps9
  go_wp2_with fail
  go_loop [5, 6] (fun c i => ∃ k : Nat, k ≤ n ∧ i = .int .i64 k ∧ c = .int .i64 (cnt k g jb)) (fun _ i => n - (intOf i).toNat)
  case atStart => exact ⟨0, Nat.zero_le _, rfl, rfl⟩
  case round =>
    obtain ⟨k, hk, rfl, rfl⟩ := hrel
    by_cases hlt : k < n
    · have c0 := HC.out k hlt
      have hle := cnt_le k g jb
      have heq := run_eql_job w (HZ.out k hlt) hj
      by_cases e : g k = jb
      · rw [show (g k == jb) = true from by simp [e]] at heq
        have HS : Hid (cnt (k + 1) g jb = cnt k g jb + 1) := by show cnt k g jb + (if g k = jb then 1 else 0) = _; rw [if_pos e]
        clear e
        go_wp2
        go_round
        case rel => exact ⟨k + 1, by omega, by go_num, by rw [HS.out]; go_num⟩
        case measure => simp [intOf]; omega
      · rw [show (g k == jb) = false from by simp [e]] at heq
        have HS : Hid (cnt (k + 1) g jb = cnt k g jb) := by show cnt k g jb + (if g k = jb then 1 else 0) = _; rw [if_neg e]; rfl
        clear e
        go_wp2
        go_round
        case rel => exact ⟨k + 1, by omega, by go_num, by rw [HS.out]⟩
        case measure => simp [intOf]; omega
    · have hkn : k = n := by omega
      subst hkn
      go_wp2
      go_ret
      exact ⟨rfl, rfl⟩

/-- count, at whatever value that owns pointers to jobs -/
theorem count_any (B n jb : Nat) (g : Nat → Nat) (v : Value) (w : World) (hn : n ≤ 1000) (ho : w.ownsRow B 30 1 v n (ptrs n g)) (hz : ∀ k, k < n → Zb w (g k)) (hj : Zb w jb) (h0 : 0 < n) :
    Calls Yba.prog 9 #[v, .pointer (some ⟨jb, 0, none⟩)] w fun e w' => e = .returned (.int .i64 (cnt n g jb)) ∧ w' = w := by
  rcases ho.2 with ⟨_, h⟩ | ⟨q, cap, cur, rfl, _, h2, h3, _, h5, h6⟩
  · omega
  · refine count_some q n cap jb g w hn (fun k hk => ?_) hz hj
    have := congrArg (·[k]?) h6
    simp only [Nat.mul_one] at this
    rw [ptrs_get n g k hk, List.getElem?_take, if_pos hk] at this
    unfold World.cell?
    simp only [h2]
    simpa [ptr] using this

theorem bits12 (b : Nat) (w : World) : (callFunc 12 #[.float .f64 b]).run Yba.prog w = .ok (.value (.int .u64 b)) w := by
  rw [run_callFunc_extern (P := Yba.prog) (f := 12) (fn := Yba.f12) (e := Extern.MathFloatBits.float64bits) Yba.func12 (by kernel_rfl) (by kernel_rfl) (by kernel_rfl) (by kernel_rfl)]
  rfl

set_option maxHeartbeats 1000000 in
theorem same_true (x y : Nat) (w : World) :
    Calls Yba.prog 16 #[.agg #[.float .f64 x, .float .f64 y], .agg #[.float .f64 x, .float .f64 y]] w fun e w' => e = .returned (.bool true) ∧ Below w.heap.size w w' := by
  have hb := bits12
  go_enter Yba.func16, Yba.ntmps16
  go_wp2_with fail
  go_quiet (fail)
  go_wp2
  go_ret
  exact ⟨rfl, bdrewN (((Below.refl _ _).alloc (Nat.le_refl _) _).alloc (by simp) _) _⟩

set_option maxHeartbeats 1000000 in
/-- keyok, the key's cells said -/
theorem keyok_1 (jb : Nat) (mh ml sh sl at_ kh kl ks : Nat) (fol : Bool) (seq hp : Int) (w : World) (p0 : w.cell? ⟨jb, 47, none⟩ = some (.float .f64 mh)) (p1 : w.cell? ⟨jb, 48, none⟩ = some (.float .f64 ml)) :
    Calls Yba.prog 10 #[.int .i64 1, .pointer (some ⟨jb, 0, none⟩), .agg (dval ⟨mh, ml, sh, sl, at_, kh, kl, ks, fol, seq⟩ hp)] w fun e w' => e = .returned (.bool true) ∧ Below w.heap.size w w' := by
  unfold dval
  simp only
  have lj := World.block_lt_of_cell? w _ p0
  go_enter Yba.func10, Yba.ntmps10
  go_wp2_with fail
  have hbW : Below w.heap.size w ((((w.alloc (.cells #[.float .f64 mh, .float .f64 ml, .float .f64 sh, .float .f64 sl, .float .f64 at_, .float .f64 kh, .float .f64 kl, .float .f64 ks, .bool fol, .int .i64 seq, .int .u8 hp] 25)).alloc (.cells #[.float .f64 mh, .float .f64 ml] 38)).alloc (.cells #[.float .f64 sh, .float .f64 sl] 38)).alloc (.cells #[.float .f64 mh, .float .f64 ml] 38)) := ((((Below.refl _ _).alloc (Nat.le_refl _) _).alloc (by simp) _).alloc (by simp; omega) _).alloc (by simp; omega) _
  have k0 : ((((w.alloc (.cells #[.float .f64 mh, .float .f64 ml, .float .f64 sh, .float .f64 sl, .float .f64 at_, .float .f64 kh, .float .f64 kl, .float .f64 ks, .bool fol, .int .i64 seq, .int .u8 hp] 25)).alloc (.cells #[.float .f64 mh, .float .f64 ml] 38)).alloc (.cells #[.float .f64 sh, .float .f64 sl] 38)).alloc (.cells #[.float .f64 mh, .float .f64 ml] 38)).cell? ⟨w.heap.size + 1 + 1 + 1, 0, none⟩ = some (.float .f64 mh) := by go_simp
  have k1 : ((((w.alloc (.cells #[.float .f64 mh, .float .f64 ml, .float .f64 sh, .float .f64 sl, .float .f64 at_, .float .f64 kh, .float .f64 kl, .float .f64 ks, .bool fol, .int .i64 seq, .int .u8 hp] 25)).alloc (.cells #[.float .f64 mh, .float .f64 ml] 38)).alloc (.cells #[.float .f64 sh, .float .f64 sl] 38)).alloc (.cells #[.float .f64 mh, .float .f64 ml] 38)).cell? ⟨w.heap.size + 1 + 1 + 1, 1, none⟩ = some (.float .f64 ml) := by go_simp
  have q0 := bcellOf hbW p0
  have q1 := bcellOf hbW p1
  generalize ((((w.alloc (.cells #[.float .f64 mh, .float .f64 ml, .float .f64 sh, .float .f64 sl, .float .f64 at_, .float .f64 kh, .float .f64 kl, .float .f64 ks, .bool fol, .int .i64 seq, .int .u8 hp] 25)).alloc (.cells #[.float .f64 mh, .float .f64 ml] 38)).alloc (.cells #[.float .f64 sh, .float .f64 sl] 38)).alloc (.cells #[.float .f64 mh, .float .f64 ml] 38)) = W at hbW k0 k1 q0 q1 ⊢
  have HB := hide hbW
  clear hbW p0 p1
  go_region_held (fun w' => w'.cell? ⟨jb, 47, none⟩ = some (.float .f64 mh) ∧ w'.cell? ⟨jb, 48, none⟩ = some (.float .f64 ml) ∧ w'.cell? ⟨w.heap.size + 1 + 1 + 1, 0, none⟩ = some (.float .f64 mh) ∧ w'.cell? ⟨w.heap.size + 1 + 1 + 1, 1, none⟩ = some (.float .f64 ml))
    (first | (go_simp; done) | (exact ⟨by assumption, by assumption, by assumption, by assumption⟩))
    (first | (go_at_call 16; refine (same_true _ _ _).mono ?_; rintro e w2 ⟨rfl, hbe⟩
              have m0 : w2.cell? ⟨jb, 47, none⟩ = some (.float .f64 mh) := bcellOf hbe q0
              have m1 : w2.cell? ⟨jb, 48, none⟩ = some (.float .f64 ml) := bcellOf hbe q1
              have m2 : w2.cell? ⟨w.heap.size + 1 + 1 + 1, 0, none⟩ = some (.float .f64 mh) := bcellOf hbe k0
              have m3 : w2.cell? ⟨w.heap.size + 1 + 1 + 1, 1, none⟩ = some (.float .f64 ml) := bcellOf hbe k1
              have HB2 := hide (HB.out.trans ((Below.refl _ _).drew.trans (hbe.mono (HB.out.size))))
              clear hbe))
  go_wp2
  go_ret
  exact ⟨rfl, HB2.out⟩

set_option maxHeartbeats 1000000 in
theorem keyok_2 (jb : Nat) (mh ml sh sl at_ kh kl ks : Nat) (fol : Bool) (seq hp : Int) (w : World) (p0 : w.cell? ⟨jb, 47, none⟩ = some (.float .f64 sh)) (p1 : w.cell? ⟨jb, 48, none⟩ = some (.float .f64 sl)) :
    Calls Yba.prog 10 #[.int .i64 2, .pointer (some ⟨jb, 0, none⟩), .agg (dval ⟨mh, ml, sh, sl, at_, kh, kl, ks, fol, seq⟩ hp)] w fun e w' => e = .returned (.bool true) ∧ Below w.heap.size w w' := by
  unfold dval
  simp only
  have lj := World.block_lt_of_cell? w _ p0
  go_enter Yba.func10, Yba.ntmps10
  go_wp2_with fail
  have hbW : Below w.heap.size w ((((w.alloc (.cells #[.float .f64 mh, .float .f64 ml, .float .f64 sh, .float .f64 sl, .float .f64 at_, .float .f64 kh, .float .f64 kl, .float .f64 ks, .bool fol, .int .i64 seq, .int .u8 hp] 25)).alloc (.cells #[.float .f64 mh, .float .f64 ml] 38)).alloc (.cells #[.float .f64 sh, .float .f64 sl] 38)).alloc (.cells #[.float .f64 sh, .float .f64 sl] 38)) := ((((Below.refl _ _).alloc (Nat.le_refl _) _).alloc (by simp) _).alloc (by simp; omega) _).alloc (by simp; omega) _
  have k0 : ((((w.alloc (.cells #[.float .f64 mh, .float .f64 ml, .float .f64 sh, .float .f64 sl, .float .f64 at_, .float .f64 kh, .float .f64 kl, .float .f64 ks, .bool fol, .int .i64 seq, .int .u8 hp] 25)).alloc (.cells #[.float .f64 mh, .float .f64 ml] 38)).alloc (.cells #[.float .f64 sh, .float .f64 sl] 38)).alloc (.cells #[.float .f64 sh, .float .f64 sl] 38)).cell? ⟨w.heap.size + 1 + 1 + 1, 0, none⟩ = some (.float .f64 sh) := by go_simp
  have k1 : ((((w.alloc (.cells #[.float .f64 mh, .float .f64 ml, .float .f64 sh, .float .f64 sl, .float .f64 at_, .float .f64 kh, .float .f64 kl, .float .f64 ks, .bool fol, .int .i64 seq, .int .u8 hp] 25)).alloc (.cells #[.float .f64 mh, .float .f64 ml] 38)).alloc (.cells #[.float .f64 sh, .float .f64 sl] 38)).alloc (.cells #[.float .f64 sh, .float .f64 sl] 38)).cell? ⟨w.heap.size + 1 + 1 + 1, 1, none⟩ = some (.float .f64 sl) := by go_simp
  have q0 := bcellOf hbW p0
  have q1 := bcellOf hbW p1
  generalize ((((w.alloc (.cells #[.float .f64 mh, .float .f64 ml, .float .f64 sh, .float .f64 sl, .float .f64 at_, .float .f64 kh, .float .f64 kl, .float .f64 ks, .bool fol, .int .i64 seq, .int .u8 hp] 25)).alloc (.cells #[.float .f64 mh, .float .f64 ml] 38)).alloc (.cells #[.float .f64 sh, .float .f64 sl] 38)).alloc (.cells #[.float .f64 sh, .float .f64 sl] 38)) = W at hbW k0 k1 q0 q1 ⊢
  have HB := hide hbW
  clear hbW p0 p1
  go_region_held (fun w' => w'.cell? ⟨jb, 47, none⟩ = some (.float .f64 sh) ∧ w'.cell? ⟨jb, 48, none⟩ = some (.float .f64 sl) ∧ w'.cell? ⟨w.heap.size + 1 + 1 + 1, 0, none⟩ = some (.float .f64 sh) ∧ w'.cell? ⟨w.heap.size + 1 + 1 + 1, 1, none⟩ = some (.float .f64 sl))
    (first | (go_simp; done) | (exact ⟨by assumption, by assumption, by assumption, by assumption⟩))
    (first | (go_at_call 16; refine (same_true _ _ _).mono ?_; rintro e w2 ⟨rfl, hbe⟩
              have m0 : w2.cell? ⟨jb, 47, none⟩ = some (.float .f64 sh) := bcellOf hbe q0
              have m1 : w2.cell? ⟨jb, 48, none⟩ = some (.float .f64 sl) := bcellOf hbe q1
              have m2 : w2.cell? ⟨w.heap.size + 1 + 1 + 1, 0, none⟩ = some (.float .f64 sh) := bcellOf hbe k0
              have m3 : w2.cell? ⟨w.heap.size + 1 + 1 + 1, 1, none⟩ = some (.float .f64 sl) := bcellOf hbe k1
              have HB2 := hide (HB.out.trans ((Below.refl _ _).drew.trans (hbe.mono (HB.out.size))))
              clear hbe))
  go_wp2
  go_ret
  exact ⟨rfl, HB2.out⟩


set_option maxHeartbeats 1000000 in
theorem keyok_0a (jb : Nat) (mh ml sh sl at_ kh kl ks : Nat) (fol : Bool) (seq hp : Int) (w : World) (p0 : w.cell? ⟨jb, 47, none⟩ = some (.float .f64 sh)) (p1 : w.cell? ⟨jb, 48, none⟩ = some (.float .f64 sl)) (h1 : ltB mh sh = true) :
    Calls Yba.prog 10 #[.int .i64 0, .pointer (some ⟨jb, 0, none⟩), .agg (dval ⟨mh, ml, sh, sl, at_, kh, kl, ks, fol, seq⟩ hp)] w fun e w' => e = .returned (.bool true) ∧ Below w.heap.size w w' := by
  unfold dval
  simp only
  have lj := World.block_lt_of_cell? w _ p0
  unfold ltB at h1
  go_enter Yba.func10, Yba.ntmps10
  go_wp2_with fail
  have hbW : Below w.heap.size w ((((w.alloc (.cells #[.float .f64 mh, .float .f64 ml, .float .f64 sh, .float .f64 sl, .float .f64 at_, .float .f64 kh, .float .f64 kl, .float .f64 ks, .bool fol, .int .i64 seq, .int .u8 hp] 25)).alloc (.cells #[.float .f64 mh, .float .f64 ml] 38)).alloc (.cells #[.float .f64 sh, .float .f64 sl] 38)).alloc (.cells #[.float .f64 sh, .float .f64 sl] 38)) := ((((Below.refl _ _).alloc (Nat.le_refl _) _).alloc (by simp) _).alloc (by simp; omega) _).alloc (by simp; omega) _
  have k0 : ((((w.alloc (.cells #[.float .f64 mh, .float .f64 ml, .float .f64 sh, .float .f64 sl, .float .f64 at_, .float .f64 kh, .float .f64 kl, .float .f64 ks, .bool fol, .int .i64 seq, .int .u8 hp] 25)).alloc (.cells #[.float .f64 mh, .float .f64 ml] 38)).alloc (.cells #[.float .f64 sh, .float .f64 sl] 38)).alloc (.cells #[.float .f64 sh, .float .f64 sl] 38)).cell? ⟨w.heap.size + 1 + 1 + 1, 0, none⟩ = some (.float .f64 sh) := by go_simp
  have k1 : ((((w.alloc (.cells #[.float .f64 mh, .float .f64 ml, .float .f64 sh, .float .f64 sl, .float .f64 at_, .float .f64 kh, .float .f64 kl, .float .f64 ks, .bool fol, .int .i64 seq, .int .u8 hp] 25)).alloc (.cells #[.float .f64 mh, .float .f64 ml] 38)).alloc (.cells #[.float .f64 sh, .float .f64 sl] 38)).alloc (.cells #[.float .f64 sh, .float .f64 sl] 38)).cell? ⟨w.heap.size + 1 + 1 + 1, 1, none⟩ = some (.float .f64 sl) := by go_simp
  have q0 := bcellOf hbW p0
  have q1 := bcellOf hbW p1
  generalize ((((w.alloc (.cells #[.float .f64 mh, .float .f64 ml, .float .f64 sh, .float .f64 sl, .float .f64 at_, .float .f64 kh, .float .f64 kl, .float .f64 ks, .bool fol, .int .i64 seq, .int .u8 hp] 25)).alloc (.cells #[.float .f64 mh, .float .f64 ml] 38)).alloc (.cells #[.float .f64 sh, .float .f64 sl] 38)).alloc (.cells #[.float .f64 sh, .float .f64 sl] 38)) = W at hbW k0 k1 q0 q1 ⊢
  have HB := hide hbW
  clear hbW p0 p1
  go_region_held (fun w' => w'.cell? ⟨jb, 47, none⟩ = some (.float .f64 sh) ∧ w'.cell? ⟨jb, 48, none⟩ = some (.float .f64 sl) ∧ w'.cell? ⟨w.heap.size + 1 + 1 + 1, 0, none⟩ = some (.float .f64 sh) ∧ w'.cell? ⟨w.heap.size + 1 + 1 + 1, 1, none⟩ = some (.float .f64 sl))
    (first | (go_simp; done) | (exact ⟨by assumption, by assumption, by assumption, by assumption⟩))
    (first | (go_at_call 16; refine (same_true _ _ _).mono ?_; rintro e w2 ⟨rfl, hbe⟩
              have m0 : w2.cell? ⟨jb, 47, none⟩ = some (.float .f64 sh) := bcellOf hbe q0
              have m1 : w2.cell? ⟨jb, 48, none⟩ = some (.float .f64 sl) := bcellOf hbe q1
              have m2 : w2.cell? ⟨w.heap.size + 1 + 1 + 1, 0, none⟩ = some (.float .f64 sh) := bcellOf hbe k0
              have m3 : w2.cell? ⟨w.heap.size + 1 + 1 + 1, 1, none⟩ = some (.float .f64 sl) := bcellOf hbe k1
              have HB2 := hide (HB.out.trans ((Below.refl _ _).drew.trans (hbe.mono (HB.out.size))))
              clear hbe))
  go_wp2
  go_ret
  exact ⟨rfl, HB2.out⟩
set_option maxHeartbeats 1000000 in
theorem keyok_0b (jb : Nat) (mh ml sh sl at_ kh kl ks : Nat) (fol : Bool) (seq hp : Int) (w : World) (p0 : w.cell? ⟨jb, 47, none⟩ = some (.float .f64 sh)) (p1 : w.cell? ⟨jb, 48, none⟩ = some (.float .f64 sl)) (h1 : ltB mh sh = false) (h2 : eqB mh sh = true) (h3 : ltB ml sl = true) :
    Calls Yba.prog 10 #[.int .i64 0, .pointer (some ⟨jb, 0, none⟩), .agg (dval ⟨mh, ml, sh, sl, at_, kh, kl, ks, fol, seq⟩ hp)] w fun e w' => e = .returned (.bool true) ∧ Below w.heap.size w w' := by
  unfold dval
  simp only
  have lj := World.block_lt_of_cell? w _ p0
  unfold ltB at h1 h3; unfold eqB at h2
  go_enter Yba.func10, Yba.ntmps10
  go_wp2_with fail
  have hbW : Below w.heap.size w ((((w.alloc (.cells #[.float .f64 mh, .float .f64 ml, .float .f64 sh, .float .f64 sl, .float .f64 at_, .float .f64 kh, .float .f64 kl, .float .f64 ks, .bool fol, .int .i64 seq, .int .u8 hp] 25)).alloc (.cells #[.float .f64 mh, .float .f64 ml] 38)).alloc (.cells #[.float .f64 sh, .float .f64 sl] 38)).alloc (.cells #[.float .f64 sh, .float .f64 sl] 38)) := ((((Below.refl _ _).alloc (Nat.le_refl _) _).alloc (by simp) _).alloc (by simp; omega) _).alloc (by simp; omega) _
  have k0 : ((((w.alloc (.cells #[.float .f64 mh, .float .f64 ml, .float .f64 sh, .float .f64 sl, .float .f64 at_, .float .f64 kh, .float .f64 kl, .float .f64 ks, .bool fol, .int .i64 seq, .int .u8 hp] 25)).alloc (.cells #[.float .f64 mh, .float .f64 ml] 38)).alloc (.cells #[.float .f64 sh, .float .f64 sl] 38)).alloc (.cells #[.float .f64 sh, .float .f64 sl] 38)).cell? ⟨w.heap.size + 1 + 1 + 1, 0, none⟩ = some (.float .f64 sh) := by go_simp
  have k1 : ((((w.alloc (.cells #[.float .f64 mh, .float .f64 ml, .float .f64 sh, .float .f64 sl, .float .f64 at_, .float .f64 kh, .float .f64 kl, .float .f64 ks, .bool fol, .int .i64 seq, .int .u8 hp] 25)).alloc (.cells #[.float .f64 mh, .float .f64 ml] 38)).alloc (.cells #[.float .f64 sh, .float .f64 sl] 38)).alloc (.cells #[.float .f64 sh, .float .f64 sl] 38)).cell? ⟨w.heap.size + 1 + 1 + 1, 1, none⟩ = some (.float .f64 sl) := by go_simp
  have q0 := bcellOf hbW p0
  have q1 := bcellOf hbW p1
  generalize ((((w.alloc (.cells #[.float .f64 mh, .float .f64 ml, .float .f64 sh, .float .f64 sl, .float .f64 at_, .float .f64 kh, .float .f64 kl, .float .f64 ks, .bool fol, .int .i64 seq, .int .u8 hp] 25)).alloc (.cells #[.float .f64 mh, .float .f64 ml] 38)).alloc (.cells #[.float .f64 sh, .float .f64 sl] 38)).alloc (.cells #[.float .f64 sh, .float .f64 sl] 38)) = W at hbW k0 k1 q0 q1 ⊢
  have HB := hide hbW
  clear hbW p0 p1
  go_region_held (fun w' => w'.cell? ⟨jb, 47, none⟩ = some (.float .f64 sh) ∧ w'.cell? ⟨jb, 48, none⟩ = some (.float .f64 sl) ∧ w'.cell? ⟨w.heap.size + 1 + 1 + 1, 0, none⟩ = some (.float .f64 sh) ∧ w'.cell? ⟨w.heap.size + 1 + 1 + 1, 1, none⟩ = some (.float .f64 sl))
    (first | (go_simp; done) | (exact ⟨by assumption, by assumption, by assumption, by assumption⟩))
    (first | (go_at_call 16; refine (same_true _ _ _).mono ?_; rintro e w2 ⟨rfl, hbe⟩
              have m0 : w2.cell? ⟨jb, 47, none⟩ = some (.float .f64 sh) := bcellOf hbe q0
              have m1 : w2.cell? ⟨jb, 48, none⟩ = some (.float .f64 sl) := bcellOf hbe q1
              have m2 : w2.cell? ⟨w.heap.size + 1 + 1 + 1, 0, none⟩ = some (.float .f64 sh) := bcellOf hbe k0
              have m3 : w2.cell? ⟨w.heap.size + 1 + 1 + 1, 1, none⟩ = some (.float .f64 sl) := bcellOf hbe k1
              have HB2 := hide (HB.out.trans ((Below.refl _ _).drew.trans (hbe.mono (HB.out.size))))
              clear hbe))
  go_wp2
  go_ret
  exact ⟨rfl, HB2.out⟩
set_option maxHeartbeats 1000000 in
theorem keyok_0c (jb : Nat) (mh ml sh sl at_ kh kl ks : Nat) (fol : Bool) (seq hp : Int) (w : World) (p0 : w.cell? ⟨jb, 47, none⟩ = some (.float .f64 mh)) (p1 : w.cell? ⟨jb, 48, none⟩ = some (.float .f64 ml)) (h1 : ltB mh sh = false) (h2 : eqB mh sh = true) (h3 : ltB ml sl = false) :
    Calls Yba.prog 10 #[.int .i64 0, .pointer (some ⟨jb, 0, none⟩), .agg (dval ⟨mh, ml, sh, sl, at_, kh, kl, ks, fol, seq⟩ hp)] w fun e w' => e = .returned (.bool true) ∧ Below w.heap.size w w' := by
  unfold dval
  simp only
  have lj := World.block_lt_of_cell? w _ p0
  unfold ltB at h1 h3; unfold eqB at h2
  go_enter Yba.func10, Yba.ntmps10
  go_wp2_with fail
  have hbW : Below w.heap.size w ((((w.alloc (.cells #[.float .f64 mh, .float .f64 ml, .float .f64 sh, .float .f64 sl, .float .f64 at_, .float .f64 kh, .float .f64 kl, .float .f64 ks, .bool fol, .int .i64 seq, .int .u8 hp] 25)).alloc (.cells #[.float .f64 mh, .float .f64 ml] 38)).alloc (.cells #[.float .f64 sh, .float .f64 sl] 38)).alloc (.cells #[.float .f64 mh, .float .f64 ml] 38)) := ((((Below.refl _ _).alloc (Nat.le_refl _) _).alloc (by simp) _).alloc (by simp; omega) _).alloc (by simp; omega) _
  have k0 : ((((w.alloc (.cells #[.float .f64 mh, .float .f64 ml, .float .f64 sh, .float .f64 sl, .float .f64 at_, .float .f64 kh, .float .f64 kl, .float .f64 ks, .bool fol, .int .i64 seq, .int .u8 hp] 25)).alloc (.cells #[.float .f64 mh, .float .f64 ml] 38)).alloc (.cells #[.float .f64 sh, .float .f64 sl] 38)).alloc (.cells #[.float .f64 mh, .float .f64 ml] 38)).cell? ⟨w.heap.size + 1 + 1 + 1, 0, none⟩ = some (.float .f64 mh) := by go_simp
  have k1 : ((((w.alloc (.cells #[.float .f64 mh, .float .f64 ml, .float .f64 sh, .float .f64 sl, .float .f64 at_, .float .f64 kh, .float .f64 kl, .float .f64 ks, .bool fol, .int .i64 seq, .int .u8 hp] 25)).alloc (.cells #[.float .f64 mh, .float .f64 ml] 38)).alloc (.cells #[.float .f64 sh, .float .f64 sl] 38)).alloc (.cells #[.float .f64 mh, .float .f64 ml] 38)).cell? ⟨w.heap.size + 1 + 1 + 1, 1, none⟩ = some (.float .f64 ml) := by go_simp
  have q0 := bcellOf hbW p0
  have q1 := bcellOf hbW p1
  generalize ((((w.alloc (.cells #[.float .f64 mh, .float .f64 ml, .float .f64 sh, .float .f64 sl, .float .f64 at_, .float .f64 kh, .float .f64 kl, .float .f64 ks, .bool fol, .int .i64 seq, .int .u8 hp] 25)).alloc (.cells #[.float .f64 mh, .float .f64 ml] 38)).alloc (.cells #[.float .f64 sh, .float .f64 sl] 38)).alloc (.cells #[.float .f64 mh, .float .f64 ml] 38)) = W at hbW k0 k1 q0 q1 ⊢
  have HB := hide hbW
  clear hbW p0 p1
  go_region_held (fun w' => w'.cell? ⟨jb, 47, none⟩ = some (.float .f64 mh) ∧ w'.cell? ⟨jb, 48, none⟩ = some (.float .f64 ml) ∧ w'.cell? ⟨w.heap.size + 1 + 1 + 1, 0, none⟩ = some (.float .f64 mh) ∧ w'.cell? ⟨w.heap.size + 1 + 1 + 1, 1, none⟩ = some (.float .f64 ml))
    (first | (go_simp; done) | (exact ⟨by assumption, by assumption, by assumption, by assumption⟩))
    (first | (go_at_call 16; refine (same_true _ _ _).mono ?_; rintro e w2 ⟨rfl, hbe⟩
              have m0 : w2.cell? ⟨jb, 47, none⟩ = some (.float .f64 mh) := bcellOf hbe q0
              have m1 : w2.cell? ⟨jb, 48, none⟩ = some (.float .f64 ml) := bcellOf hbe q1
              have m2 : w2.cell? ⟨w.heap.size + 1 + 1 + 1, 0, none⟩ = some (.float .f64 mh) := bcellOf hbe k0
              have m3 : w2.cell? ⟨w.heap.size + 1 + 1 + 1, 1, none⟩ = some (.float .f64 ml) := bcellOf hbe k1
              have HB2 := hide (HB.out.trans ((Below.refl _ _).drew.trans (hbe.mono (HB.out.size))))
              clear hbe))
  go_wp2
  go_ret
  exact ⟨rfl, HB2.out⟩
set_option maxHeartbeats 1000000 in
theorem keyok_0d (jb : Nat) (mh ml sh sl at_ kh kl ks : Nat) (fol : Bool) (seq hp : Int) (w : World) (p0 : w.cell? ⟨jb, 47, none⟩ = some (.float .f64 mh)) (p1 : w.cell? ⟨jb, 48, none⟩ = some (.float .f64 ml)) (h1 : ltB mh sh = false) (h2 : eqB mh sh = false) :
    Calls Yba.prog 10 #[.int .i64 0, .pointer (some ⟨jb, 0, none⟩), .agg (dval ⟨mh, ml, sh, sl, at_, kh, kl, ks, fol, seq⟩ hp)] w fun e w' => e = .returned (.bool true) ∧ Below w.heap.size w w' := by
  unfold dval
  simp only
  have lj := World.block_lt_of_cell? w _ p0
  unfold ltB at h1; unfold eqB at h2
  go_enter Yba.func10, Yba.ntmps10
  go_wp2_with fail
  have hbW : Below w.heap.size w ((((w.alloc (.cells #[.float .f64 mh, .float .f64 ml, .float .f64 sh, .float .f64 sl, .float .f64 at_, .float .f64 kh, .float .f64 kl, .float .f64 ks, .bool fol, .int .i64 seq, .int .u8 hp] 25)).alloc (.cells #[.float .f64 mh, .float .f64 ml] 38)).alloc (.cells #[.float .f64 sh, .float .f64 sl] 38)).alloc (.cells #[.float .f64 mh, .float .f64 ml] 38)) := ((((Below.refl _ _).alloc (Nat.le_refl _) _).alloc (by simp) _).alloc (by simp; omega) _).alloc (by simp; omega) _
  have k0 : ((((w.alloc (.cells #[.float .f64 mh, .float .f64 ml, .float .f64 sh, .float .f64 sl, .float .f64 at_, .float .f64 kh, .float .f64 kl, .float .f64 ks, .bool fol, .int .i64 seq, .int .u8 hp] 25)).alloc (.cells #[.float .f64 mh, .float .f64 ml] 38)).alloc (.cells #[.float .f64 sh, .float .f64 sl] 38)).alloc (.cells #[.float .f64 mh, .float .f64 ml] 38)).cell? ⟨w.heap.size + 1 + 1 + 1, 0, none⟩ = some (.float .f64 mh) := by go_simp
  have k1 : ((((w.alloc (.cells #[.float .f64 mh, .float .f64 ml, .float .f64 sh, .float .f64 sl, .float .f64 at_, .float .f64 kh, .float .f64 kl, .float .f64 ks, .bool fol, .int .i64 seq, .int .u8 hp] 25)).alloc (.cells #[.float .f64 mh, .float .f64 ml] 38)).alloc (.cells #[.float .f64 sh, .float .f64 sl] 38)).alloc (.cells #[.float .f64 mh, .float .f64 ml] 38)).cell? ⟨w.heap.size + 1 + 1 + 1, 1, none⟩ = some (.float .f64 ml) := by go_simp
  have q0 := bcellOf hbW p0
  have q1 := bcellOf hbW p1
  generalize ((((w.alloc (.cells #[.float .f64 mh, .float .f64 ml, .float .f64 sh, .float .f64 sl, .float .f64 at_, .float .f64 kh, .float .f64 kl, .float .f64 ks, .bool fol, .int .i64 seq, .int .u8 hp] 25)).alloc (.cells #[.float .f64 mh, .float .f64 ml] 38)).alloc (.cells #[.float .f64 sh, .float .f64 sl] 38)).alloc (.cells #[.float .f64 mh, .float .f64 ml] 38)) = W at hbW k0 k1 q0 q1 ⊢
  have HB := hide hbW
  clear hbW p0 p1
  go_region_held (fun w' => w'.cell? ⟨jb, 47, none⟩ = some (.float .f64 mh) ∧ w'.cell? ⟨jb, 48, none⟩ = some (.float .f64 ml) ∧ w'.cell? ⟨w.heap.size + 1 + 1 + 1, 0, none⟩ = some (.float .f64 mh) ∧ w'.cell? ⟨w.heap.size + 1 + 1 + 1, 1, none⟩ = some (.float .f64 ml))
    (first | (go_simp; done) | (exact ⟨by assumption, by assumption, by assumption, by assumption⟩))
    (first | (go_at_call 16; refine (same_true _ _ _).mono ?_; rintro e w2 ⟨rfl, hbe⟩
              have m0 : w2.cell? ⟨jb, 47, none⟩ = some (.float .f64 mh) := bcellOf hbe q0
              have m1 : w2.cell? ⟨jb, 48, none⟩ = some (.float .f64 ml) := bcellOf hbe q1
              have m2 : w2.cell? ⟨w.heap.size + 1 + 1 + 1, 0, none⟩ = some (.float .f64 mh) := bcellOf hbe k0
              have m3 : w2.cell? ⟨w.heap.size + 1 + 1 + 1, 1, none⟩ = some (.float .f64 ml) := bcellOf hbe k1
              have HB2 := hide (HB.out.trans ((Below.refl _ _).drew.trans (hbe.mono (HB.out.size))))
              clear hbe))
  go_wp2
  go_ret
  exact ⟨rfl, HB2.out⟩
set_option maxHeartbeats 2000000 in
theorem keyok_3 (jb : Nat) (mh ml sh sl at_ kh kl ks : Nat) (fol : Bool) (seq hp : Int) (w : World) (p0 : w.cell? ⟨jb, 47, none⟩ = some (.float .f64 kh)) (p1 : w.cell? ⟨jb, 48, none⟩ = some (.float .f64 kl)) (p2 : w.cell? ⟨jb, 49, none⟩ = some (.float .f64 ks)) :
    Calls Yba.prog 10 #[.int .i64 3, .pointer (some ⟨jb, 0, none⟩), .agg (dval ⟨mh, ml, sh, sl, at_, kh, kl, ks, fol, seq⟩ hp)] w fun e w' => e = .returned (.bool true) ∧ Below w.heap.size w w' := by
  have hb12 := bits12
  unfold dval
  simp only
  have lj := World.block_lt_of_cell? w _ p0
  go_enter Yba.func10, Yba.ntmps10
  go_wp2_with fail
  have hbW : Below w.heap.size w ((((w.alloc (.cells #[.float .f64 mh, .float .f64 ml, .float .f64 sh, .float .f64 sl, .float .f64 at_, .float .f64 kh, .float .f64 kl, .float .f64 ks, .bool fol, .int .i64 seq, .int .u8 hp] 25)).alloc (.cells #[.float .f64 mh, .float .f64 ml] 38)).alloc (.cells #[.float .f64 sh, .float .f64 sl] 38)).alloc (.cells #[.float .f64 0, .float .f64 0] 38)) := ((((Below.refl _ _).alloc (Nat.le_refl _) _).alloc (by simp) _).alloc (by simp; omega) _).alloc (by simp; omega) _
  have k0 : ((((w.alloc (.cells #[.float .f64 mh, .float .f64 ml, .float .f64 sh, .float .f64 sl, .float .f64 at_, .float .f64 kh, .float .f64 kl, .float .f64 ks, .bool fol, .int .i64 seq, .int .u8 hp] 25)).alloc (.cells #[.float .f64 mh, .float .f64 ml] 38)).alloc (.cells #[.float .f64 sh, .float .f64 sl] 38)).alloc (.cells #[.float .f64 0, .float .f64 0] 38)).cell? ⟨w.heap.size, 5, none⟩ = some (.float .f64 kh) := by go_simp
  have k1 : ((((w.alloc (.cells #[.float .f64 mh, .float .f64 ml, .float .f64 sh, .float .f64 sl, .float .f64 at_, .float .f64 kh, .float .f64 kl, .float .f64 ks, .bool fol, .int .i64 seq, .int .u8 hp] 25)).alloc (.cells #[.float .f64 mh, .float .f64 ml] 38)).alloc (.cells #[.float .f64 sh, .float .f64 sl] 38)).alloc (.cells #[.float .f64 0, .float .f64 0] 38)).cell? ⟨w.heap.size, 6, none⟩ = some (.float .f64 kl) := by go_simp
  have k2 : ((((w.alloc (.cells #[.float .f64 mh, .float .f64 ml, .float .f64 sh, .float .f64 sl, .float .f64 at_, .float .f64 kh, .float .f64 kl, .float .f64 ks, .bool fol, .int .i64 seq, .int .u8 hp] 25)).alloc (.cells #[.float .f64 mh, .float .f64 ml] 38)).alloc (.cells #[.float .f64 sh, .float .f64 sl] 38)).alloc (.cells #[.float .f64 0, .float .f64 0] 38)).cell? ⟨w.heap.size, 7, none⟩ = some (.float .f64 ks) := by go_simp
  have q0 := bcellOf hbW p0
  have q1 := bcellOf hbW p1
  have q2 := bcellOf hbW p2
  generalize ((((w.alloc (.cells #[.float .f64 mh, .float .f64 ml, .float .f64 sh, .float .f64 sl, .float .f64 at_, .float .f64 kh, .float .f64 kl, .float .f64 ks, .bool fol, .int .i64 seq, .int .u8 hp] 25)).alloc (.cells #[.float .f64 mh, .float .f64 ml] 38)).alloc (.cells #[.float .f64 sh, .float .f64 sl] 38)).alloc (.cells #[.float .f64 0, .float .f64 0] 38)) = W at hbW k0 k1 k2 q0 q1 q2 ⊢
  have HB := hide hbW
  clear hbW p0 p1 p2
  go_region_held (fun w' => w'.cell? ⟨jb, 47, none⟩ = some (.float .f64 kh) ∧ w'.cell? ⟨jb, 48, none⟩ = some (.float .f64 kl) ∧ w'.cell? ⟨jb, 49, none⟩ = some (.float .f64 ks) ∧ w'.cell? ⟨w.heap.size, 5, none⟩ = some (.float .f64 kh) ∧ w'.cell? ⟨w.heap.size, 6, none⟩ = some (.float .f64 kl) ∧ w'.cell? ⟨w.heap.size, 7, none⟩ = some (.float .f64 ks))
    (first | (go_simp; done) | (exact ⟨by assumption, by assumption, by assumption, by assumption, by assumption, by assumption⟩))
    (first | (go_at_call 16; refine (same_true _ _ _).mono ?_; rintro e w2 ⟨rfl, hbe⟩
              have m0 : w2.cell? ⟨jb, 47, none⟩ = some (.float .f64 kh) := bcellOf hbe q0
              have m1 : w2.cell? ⟨jb, 48, none⟩ = some (.float .f64 kl) := bcellOf hbe q1
              have m2 : w2.cell? ⟨jb, 49, none⟩ = some (.float .f64 ks) := bcellOf hbe q2
              have m3 : w2.cell? ⟨w.heap.size, 5, none⟩ = some (.float .f64 kh) := bcellOf hbe k0
              have m4 : w2.cell? ⟨w.heap.size, 6, none⟩ = some (.float .f64 kl) := bcellOf hbe k1
              have m5 : w2.cell? ⟨w.heap.size, 7, none⟩ = some (.float .f64 ks) := bcellOf hbe k2
              have HB2 := hide (HB.out.trans ((Below.refl _ _).drew.trans (hbe.mono (HB.out.size))))
              clear hbe))
  go_wp2
  go_ret
  exact ⟨rfl, HB2.out⟩

theorem keyok_any (sel jb r : Nat) (d : Dat) (hp : Int) (w : World) (hs : sel < 4) (h : JobD w jb (rekey sel d r)) :
    Calls Yba.prog 10 #[.int .i64 sel, .pointer (some ⟨jb, 0, none⟩), .agg (dval d hp)] w fun e w' => e = .returned (.bool true) ∧ Below w.heap.size w w' := by
  obtain ⟨mh, ml, sh, sl, at_, kh, kl, ks, fol, seq⟩ := d
  have p0 := h.c47
  have p1 := h.c48
  have p2 := h.c49
  rcases (by omega : sel = 0 ∨ sel = 1 ∨ sel = 2 ∨ sel = 3) with rfl | rfl | rfl | rfl
  · simp only [rekey, keyOf, mx] at p0 p1
    cases h1 : ltB mh sh
    · cases h2 : eqB mh sh
      · simp [lessB, h1, h2] at p0 p1
        exact keyok_0d jb mh ml sh sl at_ kh kl ks fol seq hp w p0 p1 h1 h2
      · cases h3 : ltB ml sl
        · simp [lessB, h1, h2, h3] at p0 p1
          exact keyok_0c jb mh ml sh sl at_ kh kl ks fol seq hp w p0 p1 h1 h2 h3
        · simp [lessB, h1, h2, h3] at p0 p1
          exact keyok_0b jb mh ml sh sl at_ kh kl ks fol seq hp w p0 p1 h1 h2 h3
    · simp [lessB, h1] at p0 p1
      exact keyok_0a jb mh ml sh sl at_ kh kl ks fol seq hp w p0 p1 h1
  · simp [rekey, keyOf] at p0 p1
    exact keyok_1 jb mh ml sh sl at_ kh kl ks fol seq hp w p0 p1
  · simp [rekey, keyOf] at p0 p1
    exact keyok_2 jb mh ml sh sl at_ kh kl ks fol seq hp w p0 p1
  · simp [rekey] at p0 p1 p2
    exact keyok_3 jb mh ml sh sl at_ kh kl ks fol seq hp w p0 p1 p2
end Go.Proofs.Ybulkcome
