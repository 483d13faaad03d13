import Derived.Test.YbulkcomeBfHeld2
namespace Go.Proofs.Ybulkcome
open Go.RowKit
attribute [local go_sem] bf_store_float

/-- a job's cells as zzs4515bmk lays them -/
def jcells (d : Dat) : Array Value := #[.string ByteArray.empty, .float .f64 0, .float .f64 0, .float .f64 0, .string ByteArray.empty, .string ByteArray.empty, .int .i64 0, .string ByteArray.empty, .float .f64 0, .float .f64 0, .float .f64 0, .float .f64 0, .float .f64 0, .float .f64 0, .int .i64 d.seq, .float .f64 d.mh, .float .f64 d.ml, .float .f64 d.sh, .float .f64 d.sl, .float .f64 0, .float .f64 0, .float .f64 0, .float .f64 0, .float .f64 0, .float .f64 0, .int .i64 0, .float .f64 d.at_, .bool d.fol, .float .f64 0, .float .f64 0, .float .f64 0, .float .f64 0, .float .f64 0, .float .f64 0, .float .f64 0, .float .f64 0, .bool false, .float .f64 0, .float .f64 0, .float .f64 0, .float .f64 0, .float .f64 0, .float .f64 0, .float .f64 0, .float .f64 0, .nilIface, .int .i64 0, .float .f64 d.kh, .float .f64 d.kl, .float .f64 d.ks, .float .f64 0, .float .f64 0, .float .f64 0, .float .f64 0, .float .f64 0, .float .f64 0, .float .f64 0, .float .f64 0, .float .f64 0, .float .f64 0, .float .f64 0, .float .f64 0]
/-- the plain data, as a value -/
def dval (d : Dat) (hp : Int) : Array Value := #[.float .f64 d.mh, .float .f64 d.ml, .float .f64 d.sh, .float .f64 d.sl, .float .f64 d.at_, .float .f64 d.kh, .float .f64 d.kl, .float .f64 d.ks, .bool d.fol, .int .i64 d.seq, .int .u8 hp]

theorem jobD_new (w : World) (d : Dat) : JobD (w.alloc (.cells (jcells d) 43)) w.heap.size d := by
  refine ⟨?_, ?_, ?_, ?_, ?_, ?_, ?_, ?_, ?_, ?_, fun j => World.frozen?_alloc_at _ _ _ _ rfl, ⟨_, _, (MapKept.heap_alloc w _).1⟩⟩ <;> (rw [World.cell?_alloc_at _ _ _ _ rfl]; rfl)

set_option maxRecDepth 100000 in
set_option maxHeartbeats 1000000 in
theorem mk_any (d : Dat) (hp : Int) (w : World) :
    Calls Yba.prog 6 #[.agg (dval d hp)] w fun e w' => e = .returned (.pointer (some ⟨w.heap.size + 1, 0, none⟩)) ∧ w' = (w.alloc (.cells (dval d hp) 25)).alloc (.cells (jcells d) 43) := by
  obtain ⟨mh, ml, sh, sl, at_, kh, kl, ks, fol, seq⟩ := d
  unfold dval
  go_enter Yba.func6, Yba.ntmps6
  go_wp2_with (refine Great.wpList_readTo (o := { dst := some 26, op := Op.build 43 #[(2, .tmp 7), (3, .tmp 12), (8, .tmp 14), (21, .tmp 19), (22, .tmp 21), (9, .tmp 23), (1, .tmp 25)], type := 43, pos := _, after := _, guard := none }) rfl (some 26) rfl (.agg (jcells ⟨mh, ml, sh, sl, at_, kh, kl, ks, fol, seq⟩)) (by kernel_rfl) ?_)
  go_ret
  exact ⟨rfl, rfl⟩
end Go.Proofs.Ybulkcome
