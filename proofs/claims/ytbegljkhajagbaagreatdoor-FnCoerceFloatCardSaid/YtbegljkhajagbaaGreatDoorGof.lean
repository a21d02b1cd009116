/- FnCoerceFloat: goOf, whole, coerced, of one node, walked. Condition: the node lies in the world. -/
import Derived.Test.YtbegljkhajagbaaGreatDoorCoe
import Derived.Deep.RegionWith
namespace Go.Proofs.YtbegljkhajagbaaGreatDoor.PFnCoerceFloat
open Go.RowKit Go.Proofs.YtbegljkhajagbaaGreatDoorW.PrintWords Go.Proofs.YtbegljkhajagbaaGreatDoorW.PrintLast Go.Proofs.YtbegljkhajagbaaGreatDoorW.PrintMore
set_option linter.unusedVariables false
set_option linter.unusedSimpArgs false
attribute [local go_sem] run_store_float
/-- One node in the world. -/
structure One (w : World) (ad : Addr) (kd : Int) (nu : Nat) (tx : ByteArray) : Prop where
  c0 : w.cell? ad = some (.int .i64 kd)
  c1 : w.cell? ⟨ad.block, ad.off + 1, none⟩ = some (.float .f64 nu)
  c2 : w.cell? ⟨ad.block, ad.off + 2, none⟩ = some (.string tx)
  c3 : w.cell? ⟨ad.block, ad.off + 3, none⟩ = some (.int .i64 1)
theorem One.below {w w' : World} {ad : Addr} {kd : Int} {nu : Nat} {tx : ByteArray} (h : One w ad kd nu tx) (hb : Below w.heap.size w w') : One w' ad kd nu tx :=
  ⟨(hb.cell (World.block_lt_of_cell? w _ h.c0)).trans h.c0, (hb.cell (World.block_lt_of_cell? w _ h.c1)).trans h.c1, (hb.cell (World.block_lt_of_cell? w _ h.c2)).trans h.c2, (hb.cell (World.block_lt_of_cell? w _ h.c3)).trans h.c3⟩
set_option maxHeartbeats 8000000 in
set_option maxRecDepth 100000 in
theorem go_float  {w : World} {ad : Addr} {cap nu : Nat} (tx : ByteArray) (h : One w ad 5 (nu) tx) :
    Calls Tryz.prog 33 #[.slice (some ad) 1 cap, .int .i64 0] w fun e w' => e = .returned (.tuple #[.iface 25 (.float .f64 nu), .bool true]) ∧ Below w.heap.size w w' := by
  obtain ⟨c0, c1, c2, c3⟩ := h
  have hne : ad.block < w.heap.size := World.block_lt_of_cell? w _ c0
  have HB := Aside0.mk (Below.refl w.heap.size w)
  go_enter Tryz.func33, Tryz.ntmps33
  go_wp2
  go_region_held3 (fun u => u.cell? ad = some (.int .i64 5) ∧ u.cell? ⟨ad.block, ad.off + 1, none⟩ = some (.float .f64 (nu)) ∧ u.cell? ⟨ad.block, ad.off + 2, none⟩ = some (.string tx) ∧ u.cell? ⟨ad.block, ad.off + 3, none⟩ = some (.int .i64 1)) (go_keep) (fail)
  obtain ⟨wx, hwx⟩ : ∃ wx, wx = (w.alloc (.cells #[.int .i64 5, .float .f64 (nu), .string tx, .int .i64 1] 33)).drew := ⟨_, rfl⟩
  have HBx := Aside0.mk (show Below w.heap.size w wx by rw [hwx]; exact below_drew1 (below_alloc (Below.refl _ _) _))
  have BK : wx.heap[w.heap.size]? = some (.cells #[.int .i64 5, .float .f64 (nu), .string tx, .int .i64 1] 33 (0, 0)) := by rw [hwx]; exact heap_alloc_new w _
  rw [← hwx]
  generalize w.heap.size = gb at BK ⊢
  have hx0 : wx.cell? ⟨gb, 0, none⟩ = some (.int .i64 5) := (blk_cell BK 0).trans rfl
  have hx1 : wx.cell? ⟨gb, 1, none⟩ = some (.float .f64 (nu)) := (blk_cell BK 1).trans rfl
  have hx2 : wx.cell? ⟨gb, 2, none⟩ = some (.string tx) := (blk_cell BK 2).trans rfl
  have hx3 : wx.cell? ⟨gb, 3, none⟩ = some (.int .i64 1) := (blk_cell BK 3).trans rfl
  clear hwx BK c0 c1 c2 c3 hne HB
  go_wp2
  repeat (go_quiet (fail); try go_wp2)
  go_ret2
  exact ⟨rfl, by repeat (first | (with_reducible first | exact HBx.out | apply below_alloc | apply pw_below_drewN | apply below_drew1) | exact HBx.out)⟩
set_option maxHeartbeats 8000000 in
set_option maxRecDepth 100000 in
theorem go_true  {w : World} {ad : Addr} {cap nu : Nat} (tx : ByteArray) (h : One w ad 2 (nu) tx) :
    Calls Tryz.prog 33 #[.slice (some ad) 1 cap, .int .i64 0] w fun e w' => e = .returned (.tuple #[.iface 4 (.bool true), .bool true]) ∧ Below w.heap.size w w' := by
  obtain ⟨c0, c1, c2, c3⟩ := h
  have hne : ad.block < w.heap.size := World.block_lt_of_cell? w _ c0
  have HB := Aside0.mk (Below.refl w.heap.size w)
  go_enter Tryz.func33, Tryz.ntmps33
  go_wp2
  go_region_held3 (fun u => u.cell? ad = some (.int .i64 2) ∧ u.cell? ⟨ad.block, ad.off + 1, none⟩ = some (.float .f64 (nu)) ∧ u.cell? ⟨ad.block, ad.off + 2, none⟩ = some (.string tx) ∧ u.cell? ⟨ad.block, ad.off + 3, none⟩ = some (.int .i64 1)) (go_keep) (fail)
  obtain ⟨wx, hwx⟩ : ∃ wx, wx = (w.alloc (.cells #[.int .i64 2, .float .f64 (nu), .string tx, .int .i64 1] 33)).drew := ⟨_, rfl⟩
  have HBx := Aside0.mk (show Below w.heap.size w wx by rw [hwx]; exact below_drew1 (below_alloc (Below.refl _ _) _))
  have BK : wx.heap[w.heap.size]? = some (.cells #[.int .i64 2, .float .f64 (nu), .string tx, .int .i64 1] 33 (0, 0)) := by rw [hwx]; exact heap_alloc_new w _
  rw [← hwx]
  generalize w.heap.size = gb at BK ⊢
  have hx0 : wx.cell? ⟨gb, 0, none⟩ = some (.int .i64 2) := (blk_cell BK 0).trans rfl
  have hx1 : wx.cell? ⟨gb, 1, none⟩ = some (.float .f64 (nu)) := (blk_cell BK 1).trans rfl
  have hx2 : wx.cell? ⟨gb, 2, none⟩ = some (.string tx) := (blk_cell BK 2).trans rfl
  have hx3 : wx.cell? ⟨gb, 3, none⟩ = some (.int .i64 1) := (blk_cell BK 3).trans rfl
  clear hwx BK c0 c1 c2 c3 hne HB
  go_wp2
  repeat (go_quiet (fail); try go_wp2)
  go_ret2
  exact ⟨rfl, by repeat (first | (with_reducible first | exact HBx.out | apply below_alloc | apply pw_below_drewN | apply below_drew1) | exact HBx.out)⟩
set_option maxHeartbeats 8000000 in
set_option maxRecDepth 100000 in
theorem go_false  {w : World} {ad : Addr} {cap nu : Nat} (tx : ByteArray) (h : One w ad 3 (nu) tx) :
    Calls Tryz.prog 33 #[.slice (some ad) 1 cap, .int .i64 0] w fun e w' => e = .returned (.tuple #[.iface 4 (.bool false), .bool true]) ∧ Below w.heap.size w w' := by
  obtain ⟨c0, c1, c2, c3⟩ := h
  have hne : ad.block < w.heap.size := World.block_lt_of_cell? w _ c0
  have HB := Aside0.mk (Below.refl w.heap.size w)
  go_enter Tryz.func33, Tryz.ntmps33
  go_wp2
  go_region_held3 (fun u => u.cell? ad = some (.int .i64 3) ∧ u.cell? ⟨ad.block, ad.off + 1, none⟩ = some (.float .f64 (nu)) ∧ u.cell? ⟨ad.block, ad.off + 2, none⟩ = some (.string tx) ∧ u.cell? ⟨ad.block, ad.off + 3, none⟩ = some (.int .i64 1)) (go_keep) (fail)
  obtain ⟨wx, hwx⟩ : ∃ wx, wx = (w.alloc (.cells #[.int .i64 3, .float .f64 (nu), .string tx, .int .i64 1] 33)).drew := ⟨_, rfl⟩
  have HBx := Aside0.mk (show Below w.heap.size w wx by rw [hwx]; exact below_drew1 (below_alloc (Below.refl _ _) _))
  have BK : wx.heap[w.heap.size]? = some (.cells #[.int .i64 3, .float .f64 (nu), .string tx, .int .i64 1] 33 (0, 0)) := by rw [hwx]; exact heap_alloc_new w _
  rw [← hwx]
  generalize w.heap.size = gb at BK ⊢
  have hx0 : wx.cell? ⟨gb, 0, none⟩ = some (.int .i64 3) := (blk_cell BK 0).trans rfl
  have hx1 : wx.cell? ⟨gb, 1, none⟩ = some (.float .f64 (nu)) := (blk_cell BK 1).trans rfl
  have hx2 : wx.cell? ⟨gb, 2, none⟩ = some (.string tx) := (blk_cell BK 2).trans rfl
  have hx3 : wx.cell? ⟨gb, 3, none⟩ = some (.int .i64 1) := (blk_cell BK 3).trans rfl
  clear hwx BK c0 c1 c2 c3 hne HB
  go_wp2
  repeat (go_quiet (fail); try go_wp2)
  go_ret2
  exact ⟨rfl, by repeat (first | (with_reducible first | exact HBx.out | apply below_alloc | apply pw_below_drewN | apply below_drew1) | exact HBx.out)⟩
set_option maxHeartbeats 8000000 in
set_option maxRecDepth 100000 in
theorem go_int  {w : World} {ad : Addr} {cap nu : Nat} (tx : ByteArray) (h : One w ad 4 (nu) tx) (m : Int) (hm : floatToIntVal .f64 nu .i64 = some m) :
    Calls Tryz.prog 33 #[.slice (some ad) 1 cap, .int .i64 0] w fun e w' => e = .returned (.tuple #[.iface 3 (.int .i64 m), .bool true]) ∧ Below w.heap.size w w' := by
  obtain ⟨c0, c1, c2, c3⟩ := h
  have hne : ad.block < w.heap.size := World.block_lt_of_cell? w _ c0
  have HB := Aside0.mk (Below.refl w.heap.size w)
  have hcv : ∀ w', (convert 25 3 (.float .f64 nu)).run Tryz.prog w' = .ok (.int .i64 m) w' := fun w' => run_convert_float_int w' 25 3 .f64 .i64 nu m (by kernel_rfl) (by kernel_rfl) hm
  clear hm
  go_enter Tryz.func33, Tryz.ntmps33
  go_wp2
  go_region_held3 (fun u => u.cell? ad = some (.int .i64 4) ∧ u.cell? ⟨ad.block, ad.off + 1, none⟩ = some (.float .f64 (nu)) ∧ u.cell? ⟨ad.block, ad.off + 2, none⟩ = some (.string tx) ∧ u.cell? ⟨ad.block, ad.off + 3, none⟩ = some (.int .i64 1)) (go_keep) (fail)
  obtain ⟨wx, hwx⟩ : ∃ wx, wx = (w.alloc (.cells #[.int .i64 4, .float .f64 (nu), .string tx, .int .i64 1] 33)).drew := ⟨_, rfl⟩
  have HBx := Aside0.mk (show Below w.heap.size w wx by rw [hwx]; exact below_drew1 (below_alloc (Below.refl _ _) _))
  have BK : wx.heap[w.heap.size]? = some (.cells #[.int .i64 4, .float .f64 (nu), .string tx, .int .i64 1] 33 (0, 0)) := by rw [hwx]; exact heap_alloc_new w _
  rw [← hwx]
  generalize w.heap.size = gb at BK ⊢
  have hx0 : wx.cell? ⟨gb, 0, none⟩ = some (.int .i64 4) := (blk_cell BK 0).trans rfl
  have hx1 : wx.cell? ⟨gb, 1, none⟩ = some (.float .f64 (nu)) := (blk_cell BK 1).trans rfl
  have hx2 : wx.cell? ⟨gb, 2, none⟩ = some (.string tx) := (blk_cell BK 2).trans rfl
  have hx3 : wx.cell? ⟨gb, 3, none⟩ = some (.int .i64 1) := (blk_cell BK 3).trans rfl
  clear hwx BK c0 c1 c2 c3 hne HB
  go_wp2
  repeat (go_quiet (fail); try go_wp2)
  go_ret2
  exact ⟨rfl, by repeat (first | (with_reducible first | exact HBx.out | apply below_alloc | apply pw_below_drewN | apply below_drew1) | exact HBx.out)⟩
end Go.Proofs.YtbegljkhajagbaaGreatDoor.PFnCoerceFloat
