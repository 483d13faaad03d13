import Derived.Test.YbulkcomeDoorWeight
namespace Go.Proofs.YbulkcomeDoor
open Go.RowKit
attribute [local go_sem] run_store_float

set_option maxHeartbeats 1000000 in
theorem weight_law (a b c : Int) (ha : -2147483648 ≤ a) (ha2 : a ≤ 2147483647) (hb : -2147483648 ≤ b) (hb2 : b ≤ 2147483647) (hc : -2147483648 ≤ c) (hc2 : c ≤ 2147483647) (j : Int) (hj : 0 ≤ j) (hj2 : j ≤ 255) (w : World) (hT : Tabs nd wt gt w) (h3 : 3 ≤ w.heap.size) :
    Calls Ybad.prog 4 #[.int .i32 a, .int .i32 b, .int .u8 j, .int .i32 c] w fun e w' => e = .returned (.bool true) ∧ Below w.heap.size w w' := by
  obtain ⟨k, hk⟩ : ∃ k : Nat, j % 15 = (k : Int) := ⟨(j % 15).toNat, by omega⟩
  have hk15 : k < 15 := by omega
  obtain ⟨mid, half, X, hP⟩ := pts a b (by omega) (by omega)
  obtain ⟨K, G, sm, er, kz, gL, d, e, hK, m1, m2, m3, m4, m5, m6, o3, o4⟩ := weight_kron (c := c) (k := k) hP (by omega) hk15
  obtain ⟨s2, e3, e4⟩ := hP.hhalf
  have o1 : FloatKind.f64.format.order (floatOfInt .f64 a) (floatOfInt .f64 a) = some .eq := Fl.order_self (Fl.ofInt_lim (by omega)) (by decide) (by decide)
  have o2 : FloatKind.f64.format.order (floatOfInt .f64 b) (floatOfInt .f64 b) = some .eq := Fl.order_self (Fl.ofInt_lim (by omega)) (by decide) (by decide)
  have HT := hide hT
  have HK := hide hK
  have M1 := hide m1
  have M2 := hide m2
  have M3 := hide m3
  have M4 := hide m4
  have M5 := hide m5
  have E3 := hide e3
  have E4 := hide e4
  have O1 := hide o1
  have O2 := hide o2
  have O3 := hide o3
  have O4 := hide o4
  subst m6
  have hmf : ∀ (fn : Fn) (first cap : Array Value) (w : World), (Instr.makeFunc fn first cap).run Ybad.prog w = .ok (.func fn first cap) w := fun _ _ _ _ => rfl
  clear hT hP hK m1 m2 m3 m4 m5 o1 o2 o3 o4 e3 e4
  go_enter Ybad.func4, Ybad.ntmps4
  go_wp2_with fail
  refine (weight_call _ _ _ _ _ _ _ _ X K G w HT.out h3 HK.out).mono ?_
  rintro e1 w1 ⟨rfl, hs⟩
  have hbe := hs.be
  have hsz : w1.heap.size = w.heap.size + 4 := hs.sz
  have hT1 := HT.out.below h3 hbe
  have z1 : w.heap.size + 1 + 1 < w1.heap.size := by omega
  have z2 : w.heap.size + 1 < w1.heap.size := by omega
  have z3 : w.heap.size < w1.heap.size := by omega
  have z4 : 2 < w1.heap.size := by omega
  have z5 : 1 < w1.heap.size := by omega
  have cn := hs.cn
  have ck := hs.ck
  have cc := hs.cc
  have o1 := O1.out
  have o2 := O2.out
  have o3 := O3.out
  have o4 := O4.out
  have f1 := fun t w => fsub (P := Ybad.prog) E3.out t w
  have f2 := fun t w => fdiv (P := Ybad.prog) E4.out t w
  have f3 := fun t w => fmul (P := Ybad.prog) M1.out t w
  have f4 := fun t w => fmul (P := Ybad.prog) M2.out t w
  have f5 := fun t w => fmul (P := Ybad.prog) M3.out t w
  have f6 := fun t w => fsub (P := Ybad.prog) M4.out t w
  have f7 := fun t w => fmul (P := Ybad.prog) M5.out t w
  have HB := hide hbe
  clear hs HK hsz hbe O1 O2 O3 O4 E3 E4 M1 M2 M3 M4 M5 HT hj hj2 hk ha ha2 hb hb2 hc hc2
  by_cases k0 : k = 0
  · subst k0
    have c1 := hT1.c1 7 (by decide)
    have c2 := hT1.c2 3 (by decide)
    have ek : kwOf 0 = wt 7 := rfl
    have eg : gwOf 0 = gt 3 := rfl
    rw [ek] at f3
    rw [eg] at f4
    clear hT1 ek eg
    go_wp2_with fail
    go_quiet (fail)
    go_wp2_with (go_at_call 8; refine (abs_any _ _).mono ?_; rintro e2 w2 ⟨rfl, rfl⟩)
    go_ret
    exact ⟨rfl, below_drewN (HB.out.alloc (by omega) _) _⟩
  · have kb : ((k : Int) == 0) = false := by rw [beq_eq_false_iff_ne]; omega
    obtain ⟨i, hi⟩ : ∃ i : Nat, ((k : Int) - 1) / 2 = (i : Int) := ⟨(k - 1) / 2, by omega⟩
    have hi7 : i < 7 := by omega
    have hi2 : (k - 1) / 2 = i := by omega
    have c1 := hT1.c1 i (by omega)
    have ek : kwOf k = wt i := by unfold kwOf; rw [if_neg k0, hi2]
    rw [ek] at f3
    have k1 : 1 ≤ k := by omega
    by_cases hp : i % 2 = 1
    · have c2 := hT1.c2 (i / 2) (by omega)
      have eg : gwOf k = gt (i / 2) := by unfold gwOf; rw [if_neg k0, hi2, if_pos hp]
      rw [eg] at f4
      have hp2 : ((i : Int) % 2 == 1) = true := by rw [beq_iff_eq]; omega
      clear hT1 ek eg hi2 k0 hp
      go_wp2_with (go_at_call 8; refine (abs_any _ _).mono ?_; rintro e2 w2 ⟨rfl, rfl⟩)
      go_ret
      exact ⟨rfl, HB.out.alloc (by omega) _⟩
    · have eg : gwOf k = 0 := by unfold gwOf; rw [if_neg k0, hi2, if_neg hp]
      rw [eg] at f4
      have hp2 : ((i : Int) % 2 == 1) = false := by rw [beq_eq_false_iff_ne]; omega
      clear hT1 ek eg hi2 k0 hp
      go_wp2_with (go_at_call 8; refine (abs_any _ _).mono ?_; rintro e2 w2 ⟨rfl, rfl⟩)
      go_ret
      exact ⟨rfl, HB.out.alloc (by omega) _⟩

end Go.Proofs.YbulkcomeDoor
