import Derived.Test.YbulkcomeDoorWalks
import Derived.BigQuiet
import Derived.Deep.QuietTactic
namespace Go.Proofs.YbulkcomeDoor
open Go.RowKit
attribute [local go_sem] run_store_float

section
variable {P : Program}
theorem fadd {x y r : Nat} (h : Ieee.double.add x y = some r) (t : TypeId) (w : World) : (binOp .add t (.float .f64 x) (.float .f64 y)).run P w = .ok (.float .f64 r) w := run_float_arith w .add t .f64 x y r h
theorem fsub {x y r : Nat} (h : Ieee.double.sub x y = some r) (t : TypeId) (w : World) : (binOp .sub t (.float .f64 x) (.float .f64 y)).run P w = .ok (.float .f64 r) w := run_float_arith w .sub t .f64 x y r h
theorem fmul {x y r : Nat} (h : Ieee.double.mul x y = some r) (t : TypeId) (w : World) : (binOp .mul t (.float .f64 x) (.float .f64 y)).run P w = .ok (.float .f64 r) w := run_float_arith w .mul t .f64 x y r h
theorem fdiv {x y r : Nat} (h : Ieee.double.div x y = some r) (t : TypeId) (w : World) : (binOp .quo t (.float .f64 x) (.float .f64 y)).run P w = .ok (.float .f64 r) w := run_float_arith w .quo t .f64 x y r h
end

/-- what a run of kronrod reckons -/
structure Kron (nd wt gt : Nat → Nat) (a b mid half : Nat) (v X K G : Nat → Nat) (sm er : Nat) : Prop where
  hmid : ∃ s, Ieee.double.add a b = some s ∧ Ieee.double.div s 4611686018427387904 = some mid
  hhalf : ∃ s, Ieee.double.sub b a = some s ∧ Ieee.double.div s 4611686018427387904 = some half
  x0 : X 0 = mid
  k0 : Ieee.double.mul (wt 7) (v 0) = some (K 0)
  g0 : Ieee.double.mul (gt 3) (v 0) = some (G 0)
  round : ∀ i, i < 7 → ∃ dx pr t, Ieee.double.mul half (nd i) = some dx ∧ Ieee.double.sub mid dx = some (X (2 * i + 1)) ∧ Ieee.double.add mid dx = some (X (2 * i + 2)) ∧
    Ieee.double.add (v (2 * i + 1)) (v (2 * i + 2)) = some pr ∧ Ieee.double.mul (wt i) pr = some t ∧ Ieee.double.add (K i) t = some (K (i + 1)) ∧
    (i % 2 = 0 → G (i + 1) = G i) ∧ (i % 2 = 1 → ∃ u, Ieee.double.mul (gt (i / 2)) pr = some u ∧ Ieee.double.add (G i) u = some (G (i + 1)))
  hsm : Ieee.double.mul (K 7) half = some sm
  her : ∃ d e, Ieee.double.sub (K 7) (G 7) = some d ∧ Ieee.double.mul d half = some e ∧ er = e % 9223372036854775808

structure Tabs (nd wt gt : Nat → Nat) (w : World) : Prop where
  c0 : ∀ i, i < 8 → w.cell? ⟨0, i, none⟩ = some (.float .f64 (nd i))
  c1 : ∀ i, i < 8 → w.cell? ⟨1, i, none⟩ = some (.float .f64 (wt i))
  c2 : ∀ i, i < 4 → w.cell? ⟨2, i, none⟩ = some (.float .f64 (gt i))

structure Own (b : Nat) (w : World) : Prop where
  c : ∀ i, i < 4 → ∃ v, w.cell? ⟨b, i, none⟩ = some v
  f : ∀ i, i < 4 → w.frozen? ⟨b, i, none⟩ = false

set_option maxHeartbeats 1000000 in
theorem kronrod_any (fid : Nat) (caps : Array Value) (he : ∀ args w, (callFunc fid args).run Ybad.prog w = .ok (.enter fid args) w)
    (nd wt gt : Nat → Nat) (a b mid half : Nat) (v X K G : Nat → Nat) (sm er : Nat) (hK : Kron nd wt gt a b mid half v X K G sm er)
    (S : Nat → World → Prop) (w : World) (h0 : S 0 (w.alloc (.cells #[.float .f64 0, .float .f64 0, .float .f64 0, .float .f64 0] 26)))
    (hT : ∀ j w', S j w' → Tabs nd wt gt w' ∧ Own w.heap.size w') (hD : ∀ j w' n, S j w' → S j (w'.drewN n))
    (hC : ∀ j w', j < 15 → S j w' → Calls Ybad.prog fid (#[.float .f64 (X j)] ++ caps) w' fun e w'' => e = .returned (.float .f64 (v j)) ∧ S (j + 1) w'') :
    Calls Ybad.prog 6 #[.func (.func fid) #[] caps, .float .f64 a, .float .f64 b] w fun e w' => e = .returned (.agg #[.float .f64 a, .float .f64 b, .float .f64 sm, .float .f64 er]) ∧
      ∃ w1, S 15 w1 ∧ w' = (((w1.setCell ⟨w.heap.size, 0, none⟩ (.float .f64 a)).setCell ⟨w.heap.size, 1, none⟩ (.float .f64 b)).setCell ⟨w.heap.size, 2, none⟩ (.float .f64 sm)).setCell ⟨w.heap.size, 3, none⟩ (.float .f64 er) := by
  obtain ⟨s1, e1, e2⟩ := hK.hmid
  obtain ⟨s2, e3, e4⟩ := hK.hhalf
  have f1 := fun t w => fadd (P := Ybad.prog) e1 t w
  have f2 := fun t w => fdiv (P := Ybad.prog) e2 t w
  have f3 := fun t w => fsub (P := Ybad.prog) e3 t w
  have f4 := fun t w => fdiv (P := Ybad.prog) e4 t w
  have HX := hide hK
  have HT := hide hT
  have HD := hide hD
  have HC := hide hC
  have H0 := hide h0
  clear hK hT hD hC h0 e1 e2 e3 e4
  go_enter Ybad.func6, Ybad.ntmps6
  go_wp2_with fail
  have q0 := HC.out 0 _ (by decide) H0.out
  rw [HX.out.x0] at q0
  refine q0.mono ?_
  clear q0 f1 f2 f3 f4
  rintro e w1 ⟨rfl, hs1⟩
  obtain ⟨ht1, _⟩ := HT.out _ _ hs1
  have c17 := ht1.c1 7 (by decide)
  have c23 := ht1.c2 3 (by decide)
  have f1 := fun t w => fmul (P := Ybad.prog) HX.out.k0 t w
  have f2 := fun t w => fmul (P := Ybad.prog) HX.out.g0 t w
  have HS1 := hide hs1
  clear hs1 ht1 H0
  go_wp2_with fail
  go_quiet (fail)
  clear c17 c23 f1 f2
  go_wp2_with fail
  go_loopw [10, 11, 34] (fun k g i wr => ∃ n : Nat, n ≤ 7 ∧ i = .int .i64 n ∧ k = .float .f64 (K n) ∧ g = .float .f64 (G n) ∧ S (2 * n + 1) wr) (fun _ _ i _ => 7 - (intOf i).toNat)
  case atStart => exact ⟨0, by decide, rfl, rfl, rfl, HD.out _ _ _ HS1.out⟩
  case round =>
    obtain ⟨n, hn, rfl, rfl, rfl, hs⟩ := hrel
    obtain ⟨ht1, ho1⟩ := HT.out _ _ hs
    by_cases hlt : n < 7
    · obtain ⟨dx, pr, t, r1, r2, r3, r4, r5, r6, r7, r8⟩ := HX.out.round n hlt
      have c0 := ht1.c0 n (by omega)
      have f1 := fun t w => fmul (P := Ybad.prog) r1 t w
      have f2 := fun t w => fsub (P := Ybad.prog) r2 t w
      have f3 := fun t w => fadd (P := Ybad.prog) r3 t w
      have f4 := fun t w => fadd (P := Ybad.prog) r4 t w
      have f5 := fun t w => fmul (P := Ybad.prog) r5 t w
      have f6 := fun t w => fadd (P := Ybad.prog) r6 t w
      have R7 := hide r7
      have R8 := hide r8
      have HS := hide hs
      clear r1 r2 r3 r4 r5 r6 r7 r8 ht1 ho1 hs
      go_wp2_with fail
      refine (HC.out _ _ (by omega) HS.out).mono ?_
      rintro e w2 ⟨rfl, hs2⟩
      have HS2 := hide hs2
      clear HS hs2 c0
      go_wp2_with fail
      refine (HC.out _ _ (by omega) HS2.out).mono ?_
      rintro e w3 ⟨rfl, hs3⟩
      obtain ⟨ht3, _⟩ := HT.out _ _ hs3
      have c1 := ht3.c1 n (by omega)
      have HS3 := hide hs3
      by_cases hp : n % 2 = 1
      · obtain ⟨u, r8, r9⟩ := R8.out hp
        have f7 := fun t w => fmul (P := Ybad.prog) r8 t w
        have f8 := fun t w => fadd (P := Ybad.prog) r9 t w
        have c2 := ht3.c2 (n / 2) (by omega)
        clear ht3 HS2 r8 r9 hs3
        go_wp2_with fail
        exact ⟨⟨n + 1, by omega, by go_num, rfl, rfl, HS3.out⟩, by simp [intOf]; omega⟩
      · have r7 := hide (R7.out (by omega))
        have hp0 : n % 2 = 0 := by omega
        clear ht3 HS2 hs3
        go_wp2_with fail
        exact ⟨⟨n + 1, by omega, by go_num, rfl, by rw [r7.out], HS3.out⟩, by simp [intOf]; omega⟩
    · have hn7 : n = 7 := by omega
      subst hn7
      obtain ⟨d, er0, q1, q2, rfl⟩ := HX.out.her
      have f1 := fun t w => fmul (P := Ybad.prog) HX.out.hsm t w
      have f2 := fun t w => fsub (P := Ybad.prog) q1 t w
      have f3 := fun t w => fmul (P := Ybad.prog) q2 t w
      obtain ⟨v0, b0⟩ := ho1.c 0 (by decide)
      obtain ⟨v1, b1⟩ := ho1.c 1 (by decide)
      obtain ⟨v2, b2⟩ := ho1.c 2 (by decide)
      obtain ⟨v3, b3⟩ := ho1.c 3 (by decide)
      have g0 := ho1.f 0 (by decide)
      have g1 := ho1.f 1 (by decide)
      have g2 := ho1.f 2 (by decide)
      have g3 := ho1.f 3 (by decide)
      have HS := hide hs
      clear q1 q2 hs ht1 ho1
      go_wp2_with (go_at_call 8; refine (abs_any _ _).mono ?_; rintro e w' ⟨rfl, rfl⟩)
      exact bodyPost_ret (v := .agg #[.float .f64 a, .float .f64 b, .float .f64 sm, .float .f64 (er0 % 9223372036854775808)]) (by simp [results, Ybad.results6, go_sem, b0, b1, b2, b3]) rfl ⟨rfl, _, HS.out, rfl⟩
end Go.Proofs.YbulkcomeDoor
