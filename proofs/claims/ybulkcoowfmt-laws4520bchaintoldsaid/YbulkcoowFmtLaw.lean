import Derived.Test.YbulkcoowFmtArgs2
import Derived.Deep.DeepCutAuto
namespace Go.Proofs.YbulkcoowFmt
open Go.RowKit
attribute [local go_sem] ch_store_float ch_store_func

theorem mkmap (w : World) : (Instr.makeMap 38 none).run Ybaf.prog w = .ok (.map (some w.heap.size)) (w.alloc (.map #[] 0)) := by
  rfl

theorem run_len_map {ty : TypeId} {b : Nat} {es : Array MapEntry} {clock : Nat} {w : World} (hb : w.heap[b]? = some (.map es clock)) :
    (Builtin.len_ #[38] ty #[.map (some b)]).run Ybaf.prog w = .ok (.int .i64 es.size) w := by
  simp [Builtin.len_, run_underlying Ybaf.underlying38, MapKept.run_getObj_map hb, goInt]

set_option maxRecDepth 100000 in
set_option maxHeartbeats 1000000 in
theorem law_short (pa pa2 : Option Addr) (n ac n2 c2 : Nat) (w : World) (hn : n = 0 ∨ 1024 < n) :
    Calls Ybaf.prog 3 #[.slice pa n ac, .slice pa2 n2 c2] w fun e w' => e = .returned (.bool true) ∧ w' = w := by
  rcases hn with rfl | hn
  · go_enter Ybaf.func3, Ybaf.ntmps3
    go_wp2
    go_ret
    exact ⟨rfl, rfl⟩
  · have hnb : ((n : Int) == 0) = false := by simp; omega
    have hnd : decide ((1024 : Int) < (n : Int)) = true := by simp; omega
    go_enter Ybaf.func3, Ybaf.ntmps3
    go_wp2
    go_ret
    exact ⟨rfl, rfl⟩

/-- the state of the loop over the values -/
def H1 (w : World) (n : Nat) (Kd V : Nat → Int) (i : Value) (wr : World) : Prop := ∃ k : Nat, k ≤ n ∧ i = .int .i64 k ∧ RowI w w.heap.size n 1 (fun j => .int .i64 (Z Kd V j)) k wr ∧ ∀ j, j < k → R (Z Kd V j) ∧ (Kd j % 3 = 2 → R (0 - V j))

/-- the state of the loop over the operators -/
def H2 (w : World) (m oq : Nat) (Kd V : Nat → Int) (K : Nat → Nat) (i : Value) (wr : World) : Prop := ∃ k : Nat, k ≤ m ∧ i = .int .i64 k ∧ RowI w w.heap.size (m + 1) 1 (fun j => .int .i64 (Z Kd V j)) (m + 1) wr ∧ RowI w oq m 6 (D2 K) (k * 6) wr

/-- the state of the loop over the arguments -/
def H4 (w : World) (m oq mb cq aq : Nat) (Kd V : Nat → Int) (K : Nat → Nat) (i nc : Value) (wr : World) : Prop := ∃ (k : Nat) (es : Array MapEntry) (clock : Nat) (T : Nat → Nat), k ≤ m + 1 ∧ es.size ≤ k ∧ i = .int .i64 k ∧ nc = .int .i64 es.size ∧ A4 w m oq mb cq aq Kd V K k es clock T wr

theorem kOf_lt (n2 : Nat) (S : Nat → Int) (i : Nat) : kOf n2 S i < 4 := by
  unfold kOf
  split <;> omega

set_option maxRecDepth 100000 in
set_option maxHeartbeats 4000000 in
theorem law_any (b o n ac n2 c2 : Nat) (pa2 : Option Addr) (Kd V S : Nat → Int) (w : World) (hn : 1 ≤ n) (hn2 : n ≤ 1024) (hlv : LeafAt w b o n Kd V) (hsel : n2 = 0 ∨ ∃ b2 o2, pa2 = some ⟨b2, o2, none⟩ ∧ SelAt w b2 o2 n2 S) :
    Calls Ybaf.prog 3 #[.slice (some ⟨b, o, none⟩) n ac, .slice pa2 n2 c2] w fun e w' => e = .returned (.bool true) ∧ Below w.heap.size w w' := by
  have hmk := make24 n hn2
  have hnb : ((n : Int) == 0) = false := by simp; omega
  have hnd : decide ((1024 : Int) < (n : Int)) = false := by simp; omega
  have HL := hide hlv
  have HS := hide hsel
  clear hlv hsel
  go_enter Ybaf.func3, Ybaf.ntmps3
  go_wp2_with fail
  go_loopw [39, 6, 7, 8, 9] (fun i _ _ _ _ wr => H1 w n Kd V i wr) (fun i _ _ _ _ _ => n - (intOf i).toNat)
  case atStart => exact ⟨0, by omega, rfl, by have h := RowI.made (Below.refl _ w) n 1 (.int .i64 0) 2 (fun j => .int .i64 (Z Kd V j)); rw [Nat.mul_one] at h; exact h, fun j hj => by omega⟩
  case round =>
    obtain ⟨k, hk, rfl, hI, hR⟩ := hrel
    by_cases hlt : k < n
    · obtain ⟨q0, q1, q2, q3, q4⟩ := (HL.out.below hI.bl) k hlt
      have hIA := hI.below ((Below.refl _ _).alloc (Nat.le_refl _) (.cells #[.int .u8 (Kd k), .int .i64 (V k)] 26))
      obtain ⟨u, hu⟩ := hIA.r k (by omega)
      have hfz := hIA.fr k
      have HI := hide hI
      have HIA := hide hIA
      have HR := hide hR
      have HQ4 := hide q4
      clear hI hIA hR q4
      by_cases hk2 : Kd k % 3 = 2
      · have hbs := bsub_any 0 (V k) (wr.alloc (.cells #[.int .u8 (Kd k), .int .i64 (V k)] 26)) ⟨by decide, by decide⟩ HQ4.out
        have HBS := hide hbs
        clear hbs
        go_wp2_with fail
        refine HBS.out.mono ?_
        rintro e w2 ⟨⟨v, rfl, hv⟩, rfl⟩
        rcases hv with ⟨rfl, hr⟩ | rfl
        · have HRR := hide hr
          clear hr
          go_wp2_with fail
          go_roundw
          case rel =>
            have hz : Z Kd V k = -(V k) := by unfold Z; rw [if_pos hk2]
            have hnx := HIA.out.next (k := k) (by omega)
            simp only [hz] at hnx
            refine ⟨k + 1, by omega, by go_num, hnx, fun j hj => ?_⟩
            by_cases e : j = k
            · subst e
              rw [hz]
              exact ⟨by have := HRR.out; rwa [Int.zero_sub] at this, fun _ => HRR.out⟩
            · exact HR.out j (by omega)
          case measure => simp [intOf]; omega
        · go_wp2
          go_ret
          exact ⟨rfl, HIA.out.bl⟩
      · go_wp2_with fail
        go_roundw
        case rel =>
          have hz : Z Kd V k = V k := by unfold Z; rw [if_neg hk2]
          have hnx := HIA.out.next (k := k) (by omega)
          simp only [hz] at hnx
          refine ⟨k + 1, by omega, by go_num, hnx, fun j hj => ?_⟩
          by_cases e : j = k
          · subst e
            rw [hz]
            exact ⟨HQ4.out, fun h => absurd h hk2⟩
          · exact HR.out j (by omega)
        case measure => simp [intOf]; omega
    · have hkn : k = n := by omega
      subst hkn
      obtain ⟨m, rfl⟩ : ∃ m, k = m + 1 := ⟨k - 1, by omega⟩
      have hmk2 := make29 m (by omega)
      have HI := hide hI
      have HR := hide hR
      have hoq : w.heap.size ≠ wr.heap.size := by have := hI.ql; omega
      clear hI hR hmk hnb hnd
      go_wp2_with fail
      have hat2 : H2 w m wr.heap.size Kd V (kOf n2 S) (.int .i64 0) (wr.alloc (.cells (mcs tok0 (m * 6)) 36)) :=
        ⟨0, by omega, rfl, HI.out.below ((Below.refl _ _).alloc (Nat.le_refl _) _), by have h := RowI.made HI.out.bl m 6 tok0 36 (D2 (kOf n2 S)); rw [Nat.zero_mul]; exact h⟩
      generalize wr.alloc (.cells (mcs tok0 (m * 6)) 36) = w2 at hat2 ⊢
      generalize wr.heap.size = oq at hoq hat2 ⊢
      have HAT2 := hide hat2
      clear hat2 HI hmk2 hk hlt
      simp only [Int.natCast_add, Int.cast_ofNat_Int]
      go_loopw [72, 11, 12] (fun i _ _ wy => H2 w m oq Kd V (kOf n2 S) i wy) (fun i _ _ _ => m - (intOf i).toNat)
      case atStart => exact HAT2.out
      case round =>
        clear HAT2
        obtain ⟨k, hk, rfl, hI1, hI2⟩ := hrel
        by_cases hlt : k < m
        · have hf := hI2.fr
          obtain ⟨v0, r0⟩ := hI2.r (k * 6) (by omega)
          obtain ⟨v1, r1⟩ := hI2.r (k * 6 + 1) (by omega)
          obtain ⟨v2, r2⟩ := hI2.r (k * 6 + 2) (by omega)
          obtain ⟨v3, r3⟩ := hI2.r (k * 6 + 3) (by omega)
          obtain ⟨v4, r4⟩ := hI2.r (k * 6 + 4) (by omega)
          obtain ⟨v5, r5⟩ := hI2.r (k * 6 + 5) (by omega)
          have HN : Hid (∀ wz, wz = ((((((wr.setCell ⟨oq, k * 6, none⟩ (.string (kindB (kOf n2 S k)))).setCell ⟨oq, k * 6 + 1, none⟩ (.string ByteArray.empty)).setCell ⟨oq, k * 6 + 2, none⟩ (.int .i64 0)).setCell ⟨oq, k * 6 + 3, none⟩ (.float .f64 0)).setCell ⟨oq, k * 6 + 4, none⟩ (.int .i64 1)).setCell ⟨oq, k * 6 + 5, none⟩ (.int .i64 ((k : Int) + 1))) → H2 w m oq Kd V (kOf n2 S) (.int .i64 ((k + 1 : Nat) : Int)) wz) := by
            rintro wz rfl
            have hq0 := hI2.q0
            exact ⟨k + 1, by omega, rfl, (((((hI1.other hoq hq0).other hoq hq0).other hoq hq0).other hoq hq0).other hoq hq0).other hoq hq0, hI2.six hlt⟩
          have HB := hide hI1.bl
          clear hI1 hI2
          by_cases hz : n2 = 0
          · subst hz
            have HK := hide (kind_any 0 (by decide) (by decide) wr)
            have hk0 : kOf 0 S k = 0 := rfl
            go_wp2_with fail
            refine HK.out.mono ?_
            rintro e w3 ⟨rfl, rfl⟩
            go_wp2_with fail
            go_roundw
            case rel => exact HN.out _ rfl
            case measure => simp [intOf]; omega
          · obtain ⟨b2, o2, rfl, hsel⟩ : ∃ b2 o2, pa2 = some ⟨b2, o2, none⟩ ∧ SelAt w b2 o2 n2 S := by
              rcases HS.out with h | h
              · exact absurd h hz
              · exact h
            have hlt2 : k % n2 < n2 := Nat.mod_lt _ (by omega)
            obtain ⟨g0, g1, g2⟩ := hsel (k % n2) hlt2
            have g3 := bcellOf HB.out g0
            have HK := hide (kind_any (S (k % n2)) g1 g2 wr)
            have hkk : kOf n2 S k = (S (k % n2) % 4).toNat := by unfold kOf; rw [if_neg hz]
            rw [hkk] at HN
            have hmod : (k : Int) % (n2 : Int) = ((k % n2 : Nat) : Int) := by omega
            have hmod2 : Int.tmod (k : Int) (n2 : Int) = ((k % n2 : Nat) : Int) := by rw [Int.tmod_eq_emod_of_nonneg (by omega)]; omega
            have hpos : 0 < n2 := by omega
            clear hsel g0 g1 g2 hkk
            generalize k % n2 = kk at hlt2 g3 HK HN hmod hmod2
            go_wp2_with fail
            refine HK.out.mono ?_
            rintro e w3 ⟨rfl, rfl⟩
            go_wp2_with fail
            go_roundw
            case rel => exact HN.out _ rfl
            case measure => simp [intOf]; omega
        · have hkm : k = m := by omega
          subst hkm
          have c0 := hI1.d 0 (by omega)
          have HB := hide hI1.bl
          have HI1 := hide hI1
          have HOPS := hide (hI2.ops (kOf_lt n2 S))
          have HOQ := hide hI2.ql
          clear hI1 hI2 hk hlt
          go_wp2_with fail
          go_loop [100, 13, 14, 15, 16] (fun i v _ _ _ => ∃ j : Nat, j ≤ k ∧ i = .int .i64 j ∧ v = .int .i64 (fold (Z Kd V) (kOf n2 S) j) ∧ ∀ l, l ≤ j → R (fold (Z Kd V) (kOf n2 S) l)) (fun i _ _ _ _ => k - (intOf i).toNat)
          case atStart =>
            refine ⟨0, by omega, rfl, rfl, fun l hl => ?_⟩
            have h0 : l = 0 := by omega
            subst h0
            exact (HR.out 0 (by omega)).1
          case round =>
            obtain ⟨j, hj, rfl, rfl, hRf⟩ := hrel
            by_cases hlt : j < k
            · obtain ⟨hK4, _, _, o0, _⟩ := HOPS.out j hlt
              have q1 := HI1.out.d (j + 1) (by omega)
              by_cases hk0 : kOf n2 S j = 0
              · rw [show kindB (kOf n2 S j) = ⟨#[43]⟩ by rw [hk0]; rfl] at o0
                have hst : fold (Z Kd V) (kOf n2 S) (j + 1) = fold (Z Kd V) (kOf n2 S) j + Z Kd V (j + 1) := by show op1 (kOf n2 S j) _ _ = _; simp [op1, hk0]
                have HA := hide (badd_any (fold (Z Kd V) (kOf n2 S) j) (Z Kd V (j + 1)) wr (hRf j (Nat.le_refl _)) ((HR.out (j + 1) (by omega)).1))
                have HST := hide hst
                have HRf := hide hRf
                clear hst hRf
                generalize fold (Z Kd V) (kOf n2 S) j = fk at HA HST ⊢
                generalize Z Kd V (j + 1) = zk at HA HST q1 ⊢
                go_wp2_with fail
                refine HA.out.mono ?_
                rintro e w3 ⟨⟨v, rfl, hv⟩, rfl⟩
                rcases hv with ⟨rfl, hr⟩ | rfl
                · have HRR := hide hr
                  clear hr
                  go_wp2_with fail
                  go_round
                  case rel =>
                    refine ⟨j + 1, by omega, by go_num, by rw [HST.out], fun l hl => ?_⟩
                    by_cases e : l = j + 1
                    · subst e; rw [HST.out]; exact HRR.out
                    · exact HRf.out l (by omega)
                  case measure => simp [intOf]; omega
                · go_wp2
                  go_ret
                  exact ⟨rfl, HB.out⟩
              · by_cases hk1 : kOf n2 S j = 1
                · rw [show kindB (kOf n2 S j) = ⟨#[45]⟩ by rw [hk1]; rfl] at o0
                  have hst : fold (Z Kd V) (kOf n2 S) (j + 1) = fold (Z Kd V) (kOf n2 S) j - Z Kd V (j + 1) := by show op1 (kOf n2 S j) _ _ = _; simp [op1, hk1]
                  have HA := hide (bsub_any (fold (Z Kd V) (kOf n2 S) j) (Z Kd V (j + 1)) wr (hRf j (Nat.le_refl _)) ((HR.out (j + 1) (by omega)).1))
                  have HST := hide hst
                  have HRf := hide hRf
                  clear hst hRf
                  generalize fold (Z Kd V) (kOf n2 S) j = fk at HA HST ⊢
                  generalize Z Kd V (j + 1) = zk at HA HST q1 ⊢
                  go_wp2_with fail
                  refine HA.out.mono ?_
                  rintro e w3 ⟨⟨v, rfl, hv⟩, rfl⟩
                  rcases hv with ⟨rfl, hr⟩ | rfl
                  · have HRR := hide hr
                    clear hr
                    go_wp2_with fail
                    go_round
                    case rel =>
                      refine ⟨j + 1, by omega, by go_num, by rw [HST.out], fun l hl => ?_⟩
                      by_cases e : l = j + 1
                      · subst e; rw [HST.out]; exact HRR.out
                      · exact HRf.out l (by omega)
                    case measure => simp [intOf]; omega
                  · go_wp2
                    go_ret
                    exact ⟨rfl, HB.out⟩
                · rcases (by omega : kOf n2 S j = 2 ∨ kOf n2 S j = 3) with hk2 | hk2
                  all_goals
                    have hkb : kindB (kOf n2 S j) = kindB (kOf n2 S j) := rfl
                    conv at hkb => rhs; rw [hk2]
                    unfold kindB at hkb o0
                    rw [hkb] at o0
                    simp at o0
                    have hst : fold (Z Kd V) (kOf n2 S) (j + 1) = fold (Z Kd V) (kOf n2 S) j * Z Kd V (j + 1) := by show op1 (kOf n2 S j) _ _ = _; simp [op1, hk0, hk1]
                    have HA := hide (bmul_any (fold (Z Kd V) (kOf n2 S) j) (Z Kd V (j + 1)) wr (hRf j (Nat.le_refl _)) ((HR.out (j + 1) (by omega)).1))
                    have HST := hide hst
                    have HRf := hide hRf
                    clear hst hRf
                    generalize fold (Z Kd V) (kOf n2 S) j = fk at HA HST ⊢
                    generalize Z Kd V (j + 1) = zk at HA HST q1 ⊢
                    go_wp2_with fail
                    refine HA.out.mono ?_
                    rintro e w3 ⟨⟨v, rfl, hv⟩, rfl⟩
                    rcases hv with ⟨rfl, hr⟩ | rfl
                    · have HRR := hide hr
                      clear hr
                      go_wp2_with fail
                      go_round
                      case rel =>
                        refine ⟨j + 1, by omega, by go_num, by rw [HST.out], fun l hl => ?_⟩
                        by_cases e : l = j + 1
                        · subst e; rw [HST.out]; exact HRR.out
                        · exact HRf.out l (by omega)
                      case measure => simp [intOf]; omega
                    · go_wp2
                      go_ret
                      exact ⟨rfl, HB.out⟩
            · have hjk : j = k := by omega
              subst hjk
              have hmk3 : ∀ w : World, (Instr.makeSlice 42 (.int .i64 ((j : Int) + 1)) (.int .i64 ((j : Int) + 1))).run Ybaf.prog w = .ok (.slice (some ⟨w.heap.size, 0, none⟩) (j + 1) (j + 1)) (w.alloc (.cells (mcs (.pointer none) ((j + 1) * 1)) 43)) := make42 (j + 1) hn2
              have hmm := mkmap
              have HRf := hide hRf
              clear hRf hj hlt c0
              go_wp2_with fail
              have hA0 : H4 w j oq wr.heap.size (wr.heap.size + 1) (wr.heap.size + 1 + 1) Kd V (kOf n2 S) (.int .i64 0) (.int .i64 0) (((wr.alloc (.map #[] 0)).alloc (.cells #[.map (some wr.heap.size), .bool false, .pointer none] 41)).alloc (.cells (mcs (.pointer none) ((j + 1) * 1)) 43)) :=
                ⟨0, #[], 0, fun _ => 0, by omega, by simp, rfl, rfl, A4.start HB.out HOPS.out HOQ.out⟩
              rw [Nat.mul_one] at hA0
              generalize (((wr.alloc (.map #[] 0)).alloc (.cells #[.map (some wr.heap.size), .bool false, .pointer none] 41)).alloc (.cells (mcs (.pointer none) (j + 1)) 43)) = w3 at hA0 ⊢
              generalize wr.heap.size = mb at hA0 ⊢
              have HA0 := hide hA0
              clear hA0 hmk3 hmm hn
              go_loopw [146, 18, 20, 21, 22] (fun i nc _ _ _ wz => H4 w j oq mb (mb + 1) (mb + 1 + 1) Kd V (kOf n2 S) i nc wz) (fun i _ _ _ _ _ => j + 1 - (intOf i).toNat)
              case atStart => exact HA0.out
              case round =>
                obtain ⟨k, es, clock, T, hk, hes, rfl, rfl, hA⟩ := hrel
                clear HA0
                by_cases hlt : k < j + 1
                · obtain ⟨q0, q1, q2, q3, q4⟩ := (HL.out.below hA.row.bl) k hlt
                  obtain ⟨u, hu⟩ := hA.row.r k (by omega)
                  have hfz := hA.row.fr k
                  have haq := hA.row.ql
                  have haq1 : mb + 1 + 1 < wr.heap.size + 1 := by omega
                  have haq2 : mb + 1 + 1 < wr.heap.size + 1 + 1 := by omega
                  have HA := hide hA
                  clear hA
                  rcases (by omega : Kd k % 3 = 0 ∨ Kd k % 3 = 1 ∨ Kd k % 3 = 2) with hk3 | hk3 | hk3
                  · go_wp2_with fail
                    go_roundw
                    case rel =>
                      have hz : Z Kd V k = V k := by unfold Z; rw [if_neg (by omega)]
                      have hb : Below wr.heap.size wr ((wr.alloc (.cells #[.int .u8 (Kd k), .int .i64 (V k)] 26)).alloc (.cells #[.int .i64 0, .string ⟨#[105, 110, 116]⟩, .int .i64 0, .int .i64 0, .int .i64 (V k), .float .f64 0, .bool false, .pointer none, .pointer none, .slice none 0 0, .pointer none, .slice none 0 0] 50)) := ((Below.refl _ _).alloc (Nat.le_refl _) _).alloc (by simp) _
                      have h1 := (HA.out.grow hb).put (t := wr.heap.size + 1) (Or.inl ⟨by omega, by go_simp, by rw [hz]; go_simp⟩) hlt
                      rw [World.setCell_alloc_past _ _ _ _ (by simp; omega), World.setCell_alloc_past _ _ _ _ haq] at h1
                      exact ⟨k + 1, es, clock, _, by omega, by omega, by go_num, rfl, h1⟩
                    case measure => simp [intOf]; omega
                  · have hbW : Below wr.heap.size wr ((wr.alloc (.cells #[.int .u8 (Kd k), .int .i64 (V k)] 26)).alloc (.cells #[.string ⟨#[107]⟩, .string ⟨#[105, 110, 116]⟩, .nilIface, .pointer none, .slice none 0 0, .int .i64 0, .int .i64 0] 55)) := ((Below.refl _ _).alloc (Nat.le_refl _) _).alloc (by simp) _
                    have hAW := HA.out.grow hbW
                    have hzb : Zb ((wr.alloc (.cells #[.int .u8 (Kd k), .int .i64 (V k)] 26)).alloc (.cells #[.string ⟨#[107]⟩, .string ⟨#[105, 110, 116]⟩, .nilIface, .pointer none, .slice none 0 0, .int .i64 0, .int .i64 0] 55)) (wr.heap.size + 1) := ⟨_, _, by have h := (MapKept.heap_alloc (wr.alloc (.cells #[.int .u8 (Kd k), .int .i64 (V k)] 26)) (.cells #[.string ⟨#[107]⟩, .string ⟨#[105, 110, 116]⟩, .nilIface, .pointer none, .slice none 0 0, .int .i64 0, .int .i64 0] 55)).1; simpa using h⟩
                    have hnk : ∀ e ∈ es.toList, e.key ≠ kp (wr.heap.size + 1) := fun e he => by
                      obtain ⟨b, h1, _, h2⟩ := HA.out.ke e he
                      have := h2.lt
                      rw [h1]
                      unfold kp
                      intro e2
                      injection e2 with e2
                      injection e2 with e2
                      injection e2 with e2
                      omega
                    have k1 : ((wr.alloc (.cells #[.int .u8 (Kd k), .int .i64 (V k)] 26)).alloc (.cells #[.string ⟨#[107]⟩, .string ⟨#[105, 110, 116]⟩, .nilIface, .pointer none, .slice none 0 0, .int .i64 0, .int .i64 0] 55)).cell? ⟨wr.heap.size, 1, none⟩ = some (.int .i64 (V k)) := by go_simp
                    have HAW := hide hAW
                    have HZB := hide hzb
                    have HNK := hide hnk
                    have HAQ := hide haq
                    have HK1 := hide k1
                    clear hAW hbW hzb hnk k1
                    go_wp2_with fail
                    generalize ((wr.alloc (.cells #[.int .u8 (Kd k), .int .i64 (V k)] 26)).alloc (.cells #[.string ⟨#[107]⟩, .string ⟨#[105, 110, 116]⟩, .nilIface, .pointer none, .slice none 0 0, .int .i64 0, .int .i64 0] 55)) = W at HAW HZB HK1 ⊢
                    have hAD := HAW.out.grow (Below.refl _ W).drew
                    have hZD : Zb W.drew (wr.heap.size + 1) := HZB.out.below (Below.refl _ W).drew
                    have hup := update_miss W.drew (v := kv (V k)) hAD.hm hZD hAD.cmp.e HNK.out
                    have hC := hAD.const (z := V k) hZD (by omega) HNK.out
                    have HC := hide hC
                    have k0 := HAW.out.c
                    have k1 := HK1.out
                    clear hAD hC hZD HAW HZB HK1
                    generalize ChangeMaps.setBlock W.drew mb (.map (es.push { key := kp (wr.heap.size + 1), val := kv (V k), born := clock }) (clock + 1)) = W3 at hup HC ⊢
                    unfold kp kv at hup
                    go_region
                    obtain ⟨u3, hu3⟩ := HC.out.1.row.r k (by omega)
                    have hfz3 := HC.out.1.row.fr k
                    have haq3 := HC.out.1.row.ql
                    clear hup k0 k1 hu hfz haq haq1 haq2 q0 q1
                    have hes2 : es.size + 1 ≤ 9000 := by omega
                    go_wp2_with fail
                    go_roundw
                    case rel =>
                      have hz : Z Kd V k = V k := by unfold Z; rw [if_neg (by omega)]
                      have hb : Below W3.heap.size W3 (W3.alloc (.cells #[.int .i64 3, .string ⟨#[105, 110, 116]⟩, .int .i64 0, .int .i64 0, .int .i64 0, .float .f64 0, .bool false, .pointer (some ⟨wr.heap.size + 1, 0, none⟩), .pointer none, .slice none 0 0, .pointer none, .slice none 0 0] 50)) := (Below.refl _ _).alloc (Nat.le_refl _) _
                      have h1 := (HC.out.1.grow hb).put (t := W3.heap.size) (Or.inr (Or.inl ⟨wr.heap.size + 1, 0, by omega, by have := HAQ.out; omega, by go_simp, by go_simp, by unfold kp; go_simp, by rw [hz]; exact HC.out.2.below hb⟩)) hlt
                      rw [World.setCell_alloc_past _ _ _ _ haq3] at h1
                      refine ⟨k + 1, _, _, _, by omega, ?_, by go_num, ?_, h1⟩
                      · simp; omega
                      · simp
                    case measure => simp [intOf]; omega
                  · have haq3 : mb + 1 + 1 < wr.heap.size + 1 + 1 + 1 := by omega
                    have haq4 : mb + 1 + 1 < wr.heap.size + 1 + 1 + 1 + 1 := by omega
                    go_wp2_with fail
                    go_roundw
                    case rel =>
                      have hz : Z Kd V k = -(V k) := by unfold Z; rw [if_pos hk3]
                      have hb : Below wr.heap.size wr ((((wr.alloc (.cells #[.int .u8 (Kd k), .int .i64 (V k)] 26)).alloc (.cells #[.int .i64 0, .string ⟨#[105, 110, 116]⟩, .int .i64 0, .int .i64 0, .int .i64 (V k), .float .f64 0, .bool false, .pointer none, .pointer none, .slice none 0 0, .pointer none, .slice none 0 0] 50)).alloc (.cells #[.pointer (some ⟨wr.heap.size + 1, 0, none⟩)] 43)).alloc (.cells #[.int .i64 6, .string ⟨#[105, 110, 116]⟩, .int .i64 0, .int .i64 0, .int .i64 0, .float .f64 0, .bool false, .pointer none, .pointer none, .slice none 0 0, .pointer none, .slice (some ⟨wr.heap.size + 1 + 1, 0, none⟩) 1 1] 50)) := ((((Below.refl _ _).alloc (Nat.le_refl _) _).alloc (by simp) _).alloc (by simp; omega) _).alloc (by simp; omega) _
                      have h1 := (HA.out.grow hb).put (t := wr.heap.size + 1 + 1 + 1) (Or.inr (Or.inr ⟨wr.heap.size + 1 + 1, wr.heap.size + 1, V k, 0, 0, by omega, by omega, by omega, hz, q4, (HR.out k hlt).2 hk3, by go_simp, by go_simp, by go_simp, by go_simp, by unfold pt; go_simp, by go_simp, by go_simp⟩)) hlt
                      rw [World.setCell_alloc_past _ _ _ _ (by simp; omega), World.setCell_alloc_past _ _ _ _ (by simp; omega), World.setCell_alloc_past _ _ _ _ (by simp; omega), World.setCell_alloc_past _ _ _ _ haq] at h1
                      exact ⟨k + 1, es, clock, _, by omega, by omega, by go_num, rfl, h1⟩
                    case measure => simp [intOf]; omega
                · have hkj : k = j + 1 := by omega
                  subst hkj
                  have HCH := hide (chain_any (mb + 1) mb clock (mb + 1 + 1) (j + 1) (j + 1) oq j j es T (Z Kd V) wr (by omega) hn2 hA.cmp fun i hi => ⟨hA.row.d i hi, (hA.tm i hi).tm⟩)
                  have HA := hide hA
                  clear hA
                  unfold pt at HCH
                  go_wp2_with fail
                  refine HCH.out.mono ?_
                  rintro e w5 ⟨fb, opb, cb, fq, fc, rfl, hb5, g1, g2, g3, g4⟩
                  have HR1 := hide (run_any fb opb cb fq oq (j + 1) fc j (.slice none 0 0) _ (Z Kd V) (kOf n2 S) w5 (by omega) hn2 (fun i hi => (HR.out i hi).1) (fun i hi => HRf.out i (by omega)) g1 g2 g3 g4 (HA.out.ops.below hb5))
                  have HB5 := hide (And.intro hb5 (And.intro g1 (And.intro g2 (And.intro g3 g4))))
                  clear hb5 g1 g2 g3 g4 HCH
                  unfold pt at HR1
                  go_wp2_with fail
                  refine HR1.out.mono ?_
                  rintro e w6 ⟨rfl, hb6⟩
                  have HR2 := hide (run_any fb opb cb fq oq (j + 1) fc j (.slice none 0 0) _ (Z Kd V) (kOf n2 S) w6 (by omega) hn2 (fun i hi => (HR.out i hi).1) (fun i hi => HRf.out i (by omega)) (bcellOf hb6 HB5.out.2.1) (bcellOf hb6 HB5.out.2.2.1) (bcellOf hb6 HB5.out.2.2.2.1) (HB5.out.2.2.2.2.below hb6) ((HA.out.ops.below HB5.out.1).below hb6))
                  have HB6 := hide hb6
                  clear hb6 HR1
                  unfold pt at HR2
                  go_wp2_with fail
                  refine HR2.out.mono ?_
                  rintro e w7 ⟨rfl, hb7⟩
                  have hA7 := ((HA.out.grow HB5.out.1).grow HB6.out).grow hb7
                  have hc7 := hA7.c
                  have hm7 := hA7.hm
                  have HB7 := hide hA7.row.bl
                  clear hA7 hb7 HR2
                  have hlen := run_len_map (ty := 3) hm7
                  go_wp2
                  go_ret
                  exact ⟨rfl, HB7.out⟩
end Go.Proofs.YbulkcoowFmt
