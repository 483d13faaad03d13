import Derived.Test.YbulkcoowKeyWalks
import Derived.Great.Walk
namespace Go.Proofs.Ybulkcoow
open Go.RowKit

def xcells (x y : Int) : Array Value := #[.int .i64 0, .nilFunc, .nilFunc, .nilFunc, .nilFunc, .nilFunc, .nilFunc, .slice none 0 0, .nilFunc, .nilFunc, .int .i64 x, .int .i64 0, .pointer none, .pointer none, .pointer none, .slice none 0 0, .slice none 0 0, .pointer none, .slice none 0 0, .pointer none, .slice none 0 0, .slice none 0 0, .slice none 0 0, .slice none 0 0, .int .i64 y, .map none, .map none, .map none, .map none, .map none, .slice none 0 0, .slice none 0 0, .slice none 0 0, .slice none 0 0, .slice none 0 0, .slice none 0 0, .slice none 0 0, .slice none 0 0, .slice none 0 0, .slice none 0 0, .slice none 0 0, .slice none 0 0, .slice none 0 0, .slice none 0 0, .slice none 0 0]

/-- conf seen from the law's start: the rows that 'open_ints' hands over -/
theorem conf_of {w : World} {a : Option Addr} {len : Nat} {zs : Nat → Int} (h : len = 0 ∨ ∃ b o, a = some ⟨b, o, none⟩ ∧ b < w.heap.size ∧ ∀ i, i < len → w.cell? ⟨b, o + i, none⟩ = some (.int .u32 (zs i))) {w' : World} {kb : Nat}
    (hb : Below w.heap.size w w') (hk : w.heap.size ≤ kb) : Conf w' kb a len zs := by
  rcases h with h | ⟨b, o, rfl, hbl, hc⟩
  · exact Or.inl h
  · refine Or.inr ⟨b, o, rfl, by omega, fun i hi => ?_⟩
    rw [hb.cell (by exact hbl)]
    exact hc i hi

set_option maxHeartbeats 1000000 in
set_option maxRecDepth 100000 in
theorem exact_small (a : Option Addr) (len cap : Nat) (zs : Nat → Int) (sm : Int) (w : World) (hlen : len ≤ 1024) (hz : ∀ i, 0 ≤ zs i ∧ zs i < 4294967296)
    (hc : len = 0 ∨ ∃ b o, a = some ⟨b, o, none⟩ ∧ b < w.heap.size ∧ ∀ i, i < len → w.cell? ⟨b, o + i, none⟩ = some (.int .u32 (zs i))) :
    Calls Yba.prog 3 #[.slice a len cap, .int .u64 sm] w fun e w' => e = .returned (.bool true) ∧ Below w.heap.size w w' := by
  have HC := hide hc
  have HZ := hide hz
  clear hc hz
  go_enter Yba.func3, Yba.ntmps3
  go_wp2_with (refine Great.wpList_readTo (o := { dst := some 17, op := Op.build 57 #[(1, .tmp 14), (15, .tmp 16)], type := 57, pos := _, after := _, guard := none }) rfl (some 17) rfl (.agg (xcells len (4 * len))) (by kernel_rfl) ?_)
  have hk := keyFor_any w.heap.size (4 * len) len cap a zs sm (w.alloc (.cells (xcells len (4 * len)) 57)) hlen (Nat.le_refl _) (by omega) HZ.out
    (conf_of HC.out ((Below.refl _ _).alloc (Nat.le_refl _) _) (by simp)) (by simp) (by rw [World.cell?_alloc_at _ _ _ _ rfl]; rfl) (by rw [World.cell?_alloc_at _ _ _ _ rfl, Int.natCast_mul]; rfl)
  refine hk.mono ?_
  clear hk
  rintro e w1 ⟨rfl, hs⟩
  have hbe : Below w.heap.size w w1 := ((Below.refl _ _).alloc (Nat.le_refl _) _).trans (hs.be.mono (by simp))
  have HS := hide hs
  have HB := hide hbe
  clear hs hbe
  go_wp2_with fail
  go_loopw [8] (fun i wr => ∃ p : Nat, p ≤ len ∧ i = .int .i64 p ∧ KS (w.alloc (.cells (xcells len (4 * len)) 57)) (w.heap.size + 1) (4 * len) zs len wr ∧ Below w.heap.size w wr) (fun i _ => len - (intOf i).toNat)
  case atStart => exact ⟨0, Nat.zero_le _, rfl, by simpa using HS.out, HB.out⟩
  case round =>
    obtain ⟨p, hp, rfl, hs, hbe⟩ := hrel
    by_cases hlt : p < len
    · rcases HC.out with h0 | ⟨b, o, ha, hb, hc⟩
      · omega
      · subst ha
        have c0 : wr.cell? ⟨b, o + p, none⟩ = some (.int .u32 (zs p)) := by rw [hbe.cell (by exact hb)]; exact hc p hlt
        have HS2 := hide hs
        have HB2 := hide hbe
        clear hs hbe hc
        go_wp2_with fail
        go_quiet ((go_at_call 6; exact Calls.quiet_of (decode_key _ _ _ len p zs _ HZ.out (by omega) (by omega) hlt (HS2.out.drewN _))))
        go_wp2
        exact ⟨⟨p + 1, by omega, by go_num, HS2.out.drewN _, bdrewN HB2.out _⟩, by simp [intOf]; omega⟩
    · have HB2 := hide hbe
      clear hs hbe
      go_wp2
      go_ret
      exact ⟨rfl, HB2.out⟩

set_option maxHeartbeats 400000 in
theorem exact_large (a : Option Addr) (len cap : Nat) (sm : Int) (w : World) (hlen : 1024 < len) :
    Calls Yba.prog 3 #[.slice a len cap, .int .u64 sm] w fun e w' => e = .returned (.bool true) ∧ Below w.heap.size w w' := by
  have h : (1024 : Int) < (len : Int) := by omega
  go_enter Yba.func3, Yba.ntmps3
  go_wp2
  go_ret
  exact ⟨rfl, Below.refl _ _⟩
end Go.Proofs.Ybulkcoow
