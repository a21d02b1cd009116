/- A part of the proof of the theorem of this claim: New, Pnm, Pn2. No condition of its own. -/
import Derived.Test.YthgcghpcikbnkaaGreatDoorA8
set_option maxHeartbeats 16000000
set_option maxRecDepth 100000
namespace Go.Proofs.YthgcghpcikbnkaaGreatDoor.R
open Go.RowKit Go.Proofs.YthgcghpcikbnkaaGreatDoorW.PrintWords Go.Proofs.YthgcghpcikbnkaaGreatDoorW.PrintLast Go.Proofs.YthgcghpcikbnkaaGreatDoorW.PrintMore
set_option linter.unusedVariables false
set_option linter.unusedSimpArgs false
set_option maxHeartbeats 4000000 in
set_option maxRecDepth 100000 in
theorem newName {w : World} {B g : Nat} {k : ByteArray} {p1 : Option Addr} {s2 : ByteArray} (h : w.heap[g]? = some (.cells #[.string k, .pointer p1, .string s2] 118 (0, 0))) (hB : B ≤ g) (hw : B ≤ w.heap.size) :
 Calls Tryz.prog 135 #[ptr g] w fun e w' => (∃ (g' : Nat) (k' : ByteArray), e = .returned (ptr g') ∧ B ≤ g' ∧ w'.heap[g']? = some (.cells #[.string k', .pointer p1, .string s2] 118 (0, 0))) ∧ Below B w w' := by
 have H := mkA h
 have f0 := blk_frozen h 0
 have c0 : w.cell? ⟨g, 0, none⟩ = some (.string k) := (blk_cell h 0).trans rfl
 clear h
 go_enter Tryz.func135, Tryz.ntmps135
 go_wp2
 go_ret
 exact ⟨⟨g, _, rfl, hB, blk_put H.out 0 _ rfl⟩, (Below.refl B w).setCell (p := ⟨g, 0, none⟩) hB _⟩
set_option maxHeartbeats 4000000 in
set_option maxRecDepth 100000 in
theorem newNamed {w : World} {B g : Nat} {k : ByteArray} {p1 : Option Addr} {p2 : Option Addr} (h : w.heap[g]? = some (.cells #[.string k, .pointer p1, .pointer p2] 123 (0, 0))) (hB : B ≤ g) (hw : B ≤ w.heap.size) :
 Calls Tryz.prog 136 #[ptr g] w fun e w' => (∃ (g' : Nat) (k' : ByteArray), e = .returned (ptr g') ∧ B ≤ g' ∧ w'.heap[g']? = some (.cells #[.string k', .pointer p1, .pointer p2] 123 (0, 0))) ∧ Below B w w' := by
 have H := mkA h
 have f0 := blk_frozen h 0
 have c0 : w.cell? ⟨g, 0, none⟩ = some (.string k) := (blk_cell h 0).trans rfl
 clear h
 go_enter Tryz.func136, Tryz.ntmps136
 go_wp2
 go_ret
 exact ⟨⟨g, _, rfl, hB, blk_put H.out 0 _ rfl⟩, (Below.refl B w).setCell (p := ⟨g, 0, none⟩) hB _⟩
set_option maxHeartbeats 4000000 in
set_option maxRecDepth 100000 in
theorem newList {w : World} {B g : Nat} {k : ByteArray} {p1 : Option Addr} {t2 : TypeId} {x2 : Value} (h : w.heap[g]? = some (.cells #[.string k, .pointer p1, .iface t2 x2] 127 (0, 0))) (hB : B ≤ g) (hw : B ≤ w.heap.size) :
 Calls Tryz.prog 104 #[ptr g] w fun e w' => (∃ (g' : Nat) (k' : ByteArray), e = .returned (ptr g') ∧ B ≤ g' ∧ w'.heap[g']? = some (.cells #[.string k', .pointer p1, .iface t2 x2] 127 (0, 0))) ∧ Below B w w' := by
 have c1 : w.cell? ⟨g, 1, none⟩ = some (.pointer p1) := (blk_cell h 1).trans rfl
 have c2 : w.cell? ⟨g, 2, none⟩ = some (.iface t2 x2) := (blk_cell h 2).trans rfl
 have HW := mkA hw
 clear h hB hw
 go_enter Tryz.func104, Tryz.ntmps104
 go_wp2
 go_region_held3 (fun u => u.cell? ⟨g, 1, none⟩ = some (.pointer p1) ∧ u.cell? ⟨g, 2, none⟩ = some (.iface t2 x2)) (go_keep) (fail)
 go_wp2
 go_ret
 exact ⟨⟨_, _, rfl, HW.out, heap_alloc_new w _⟩, by first | exact below_drew1 ((Below.refl B w).alloc HW.out _) | exact (Below.refl B w).alloc HW.out _ | exact below_drew1 (below_drew1 ((Below.refl B w).alloc HW.out _)) | exact pw_below_drewN ((Below.refl B w).alloc HW.out _) _⟩
set_option maxHeartbeats 4000000 in
set_option maxRecDepth 100000 in
theorem newNonNull {w : World} {B g : Nat} {k : ByteArray} {p1 : Option Addr} {t2 : TypeId} {x2 : Value} (h : w.heap[g]? = some (.cells #[.string k, .pointer p1, .iface t2 x2] 129 (0, 0))) (hB : B ≤ g) (hw : B ≤ w.heap.size) :
 Calls Tryz.prog 106 #[ptr g] w fun e w' => (∃ (g' : Nat) (k' : ByteArray), e = .returned (ptr g') ∧ B ≤ g' ∧ w'.heap[g']? = some (.cells #[.string k', .pointer p1, .iface t2 x2] 129 (0, 0))) ∧ Below B w w' := by
 have c1 : w.cell? ⟨g, 1, none⟩ = some (.pointer p1) := (blk_cell h 1).trans rfl
 have c2 : w.cell? ⟨g, 2, none⟩ = some (.iface t2 x2) := (blk_cell h 2).trans rfl
 have HW := mkA hw
 clear h hB hw
 go_enter Tryz.func106, Tryz.ntmps106
 go_wp2
 go_region_held3 (fun u => u.cell? ⟨g, 1, none⟩ = some (.pointer p1) ∧ u.cell? ⟨g, 2, none⟩ = some (.iface t2 x2)) (go_keep) (fail)
 go_wp2
 go_ret
 exact ⟨⟨_, _, rfl, HW.out, heap_alloc_new w _⟩, by first | exact below_drew1 ((Below.refl B w).alloc HW.out _) | exact (Below.refl B w).alloc HW.out _ | exact below_drew1 (below_drew1 ((Below.refl B w).alloc HW.out _)) | exact pw_below_drewN ((Below.refl B w).alloc HW.out _) _⟩
set_option maxHeartbeats 4000000 in
set_option maxRecDepth 100000 in
theorem newVariable {w : World} {B g : Nat} {k : ByteArray} {p1 : Option Addr} {p2 : Option Addr} (h : w.heap[g]? = some (.cells #[.string k, .pointer p1, .pointer p2] 83 (0, 0))) (hB : B ≤ g) (hw : B ≤ w.heap.size) :
 Calls Tryz.prog 103 #[ptr g] w fun e w' => (∃ (g' : Nat) (k' : ByteArray), e = .returned (ptr g') ∧ B ≤ g' ∧ w'.heap[g']? = some (.cells #[.string k', .pointer p1, .pointer p2] 83 (0, 0))) ∧ Below B w w' := by
 have H := mkA h
 have f0 := blk_frozen h 0
 have c0 : w.cell? ⟨g, 0, none⟩ = some (.string k) := (blk_cell h 0).trans rfl
 clear h
 go_enter Tryz.func103, Tryz.ntmps103
 go_wp2
 go_ret
 exact ⟨⟨g, _, rfl, hB, blk_put H.out 0 _ rfl⟩, (Below.refl B w).setCell (p := ⟨g, 0, none⟩) hB _⟩
set_option maxHeartbeats 4000000 in
set_option maxRecDepth 100000 in
theorem newVarDef0 {w : World} {B g : Nat} {k : ByteArray} {p1 : Option Addr} {p2 : Option Addr} {t3 : TypeId} {x3 : Value} (h : w.heap[g]? = some (.cells #[.string k, .pointer p1, .pointer p2, .iface t3 x3, .nilIface] 79 (0, 0))) (hB : B ≤ g) (hw : B ≤ w.heap.size) :
 Calls Tryz.prog 85 #[ptr g] w fun e w' => (∃ (g' : Nat) (k' : ByteArray), e = .returned (ptr g') ∧ B ≤ g' ∧ w'.heap[g']? = some (.cells #[.string k', .pointer p1, .pointer p2, .iface t3 x3, .nilIface] 79 (0, 0))) ∧ Below B w w' := by
 have H := mkA h
 have f0 := blk_frozen h 0
 have c0 : w.cell? ⟨g, 0, none⟩ = some (.string k) := (blk_cell h 0).trans rfl
 clear h
 go_enter Tryz.func85, Tryz.ntmps85
 go_wp2
 go_ret
 exact ⟨⟨g, _, rfl, hB, blk_put H.out 0 _ rfl⟩, (Below.refl B w).setCell (p := ⟨g, 0, none⟩) hB _⟩
set_option maxHeartbeats 4000000 in
set_option maxRecDepth 100000 in
theorem newVarDef1 {w : World} {B g : Nat} {k : ByteArray} {p1 : Option Addr} {p2 : Option Addr} {t3 : TypeId} {x3 : Value} {t4 : TypeId} {x4 : Value} (h : w.heap[g]? = some (.cells #[.string k, .pointer p1, .pointer p2, .iface t3 x3, .iface t4 x4] 79 (0, 0))) (hB : B ≤ g) (hw : B ≤ w.heap.size) :
 Calls Tryz.prog 85 #[ptr g] w fun e w' => (∃ (g' : Nat) (k' : ByteArray), e = .returned (ptr g') ∧ B ≤ g' ∧ w'.heap[g']? = some (.cells #[.string k', .pointer p1, .pointer p2, .iface t3 x3, .iface t4 x4] 79 (0, 0))) ∧ Below B w w' := by
 have H := mkA h
 have f0 := blk_frozen h 0
 have c0 : w.cell? ⟨g, 0, none⟩ = some (.string k) := (blk_cell h 0).trans rfl
 clear h
 go_enter Tryz.func85, Tryz.ntmps85
 go_wp2
 go_ret
 exact ⟨⟨g, _, rfl, hB, blk_put H.out 0 _ rfl⟩, (Below.refl B w).setCell (p := ⟨g, 0, none⟩) hB _⟩
set_option maxHeartbeats 4000000 in
set_option maxRecDepth 100000 in
theorem newInt {w : World} {B g : Nat} {k : ByteArray} {p1 : Option Addr} {s2 : ByteArray} (h : w.heap[g]? = some (.cells #[.string k, .pointer p1, .string s2] 131 (0, 0))) (hB : B ≤ g) (hw : B ≤ w.heap.size) :
 Calls Tryz.prog 109 #[ptr g] w fun e w' => (∃ (g' : Nat) (k' : ByteArray), e = .returned (ptr g') ∧ B ≤ g' ∧ w'.heap[g']? = some (.cells #[.string k', .pointer p1, .string s2] 131 (0, 0))) ∧ Below B w w' := by
 have c1 : w.cell? ⟨g, 1, none⟩ = some (.pointer p1) := (blk_cell h 1).trans rfl
 have c2 : w.cell? ⟨g, 2, none⟩ = some (.string s2) := (blk_cell h 2).trans rfl
 have HW := mkA hw
 clear h hB hw
 go_enter Tryz.func109, Tryz.ntmps109
 go_wp2
 go_region_held3 (fun u => u.cell? ⟨g, 1, none⟩ = some (.pointer p1) ∧ u.cell? ⟨g, 2, none⟩ = some (.string s2)) (go_keep) (fail)
 go_wp2
 go_ret
 exact ⟨⟨_, _, rfl, HW.out, heap_alloc_new w _⟩, by first | exact below_drew1 ((Below.refl B w).alloc HW.out _) | exact (Below.refl B w).alloc HW.out _ | exact below_drew1 (below_drew1 ((Below.refl B w).alloc HW.out _)) | exact pw_below_drewN ((Below.refl B w).alloc HW.out _) _⟩
set_option maxHeartbeats 4000000 in
set_option maxRecDepth 100000 in
theorem newFloat {w : World} {B g : Nat} {k : ByteArray} {p1 : Option Addr} {s2 : ByteArray} (h : w.heap[g]? = some (.cells #[.string k, .pointer p1, .string s2] 133 (0, 0))) (hB : B ≤ g) (hw : B ≤ w.heap.size) :
 Calls Tryz.prog 110 #[ptr g] w fun e w' => (∃ (g' : Nat) (k' : ByteArray), e = .returned (ptr g') ∧ B ≤ g' ∧ w'.heap[g']? = some (.cells #[.string k', .pointer p1, .string s2] 133 (0, 0))) ∧ Below B w w' := by
 have c1 : w.cell? ⟨g, 1, none⟩ = some (.pointer p1) := (blk_cell h 1).trans rfl
 have c2 : w.cell? ⟨g, 2, none⟩ = some (.string s2) := (blk_cell h 2).trans rfl
 have HW := mkA hw
 clear h hB hw
 go_enter Tryz.func110, Tryz.ntmps110
 go_wp2
 go_region_held3 (fun u => u.cell? ⟨g, 1, none⟩ = some (.pointer p1) ∧ u.cell? ⟨g, 2, none⟩ = some (.string s2)) (go_keep) (fail)
 go_wp2
 go_ret
 exact ⟨⟨_, _, rfl, HW.out, heap_alloc_new w _⟩, by first | exact below_drew1 ((Below.refl B w).alloc HW.out _) | exact (Below.refl B w).alloc HW.out _ | exact below_drew1 (below_drew1 ((Below.refl B w).alloc HW.out _)) | exact pw_below_drewN ((Below.refl B w).alloc HW.out _) _⟩
set_option maxHeartbeats 4000000 in
set_option maxRecDepth 100000 in
theorem newStr {w : World} {B g : Nat} {k : ByteArray} {p1 : Option Addr} {s2 : ByteArray} (h : w.heap[g]? = some (.cells #[.string k, .pointer p1, .string s2] 135 (0, 0))) (hB : B ≤ g) (hw : B ≤ w.heap.size) :
 Calls Tryz.prog 142 #[ptr g] w fun e w' => (∃ (g' : Nat) (k' : ByteArray), e = .returned (ptr g') ∧ B ≤ g' ∧ w'.heap[g']? = some (.cells #[.string k', .pointer p1, .string s2] 135 (0, 0))) ∧ Below B w w' := by
 have c1 : w.cell? ⟨g, 1, none⟩ = some (.pointer p1) := (blk_cell h 1).trans rfl
 have c2 : w.cell? ⟨g, 2, none⟩ = some (.string s2) := (blk_cell h 2).trans rfl
 have HW := mkA hw
 clear h hB hw
 go_enter Tryz.func142, Tryz.ntmps142
 go_wp2
 go_region_held3 (fun u => u.cell? ⟨g, 1, none⟩ = some (.pointer p1) ∧ u.cell? ⟨g, 2, none⟩ = some (.string s2)) (go_keep) (fail)
 go_wp2
 go_ret
 exact ⟨⟨_, _, rfl, HW.out, heap_alloc_new w _⟩, by first | exact below_drew1 ((Below.refl B w).alloc HW.out _) | exact (Below.refl B w).alloc HW.out _ | exact below_drew1 (below_drew1 ((Below.refl B w).alloc HW.out _)) | exact pw_below_drewN ((Below.refl B w).alloc HW.out _) _⟩
set_option maxHeartbeats 4000000 in
set_option maxRecDepth 100000 in
theorem newBool {w : World} {B g : Nat} {k : ByteArray} {p1 : Option Addr} {b2 : Bool} (h : w.heap[g]? = some (.cells #[.string k, .pointer p1, .bool b2] 138 (0, 0))) (hB : B ≤ g) (hw : B ≤ w.heap.size) :
 Calls Tryz.prog 112 #[ptr g] w fun e w' => (∃ (g' : Nat) (k' : ByteArray), e = .returned (ptr g') ∧ B ≤ g' ∧ w'.heap[g']? = some (.cells #[.string k', .pointer p1, .bool b2] 138 (0, 0))) ∧ Below B w w' := by
 have c1 : w.cell? ⟨g, 1, none⟩ = some (.pointer p1) := (blk_cell h 1).trans rfl
 have c2 : w.cell? ⟨g, 2, none⟩ = some (.bool b2) := (blk_cell h 2).trans rfl
 have HW := mkA hw
 clear h hB hw
 go_enter Tryz.func112, Tryz.ntmps112
 go_wp2
 go_region_held3 (fun u => u.cell? ⟨g, 1, none⟩ = some (.pointer p1) ∧ u.cell? ⟨g, 2, none⟩ = some (.bool b2)) (go_keep) (fail)
 go_wp2
 go_ret
 exact ⟨⟨_, _, rfl, HW.out, heap_alloc_new w _⟩, by first | exact below_drew1 ((Below.refl B w).alloc HW.out _) | exact (Below.refl B w).alloc HW.out _ | exact below_drew1 (below_drew1 ((Below.refl B w).alloc HW.out _)) | exact pw_below_drewN ((Below.refl B w).alloc HW.out _) _⟩
set_option maxHeartbeats 4000000 in
set_option maxRecDepth 100000 in
theorem newEnum {w : World} {B g : Nat} {k : ByteArray} {p1 : Option Addr} {s2 : ByteArray} (h : w.heap[g]? = some (.cells #[.string k, .pointer p1, .string s2] 140 (0, 0))) (hB : B ≤ g) (hw : B ≤ w.heap.size) :
 Calls Tryz.prog 113 #[ptr g] w fun e w' => (∃ (g' : Nat) (k' : ByteArray), e = .returned (ptr g') ∧ B ≤ g' ∧ w'.heap[g']? = some (.cells #[.string k', .pointer p1, .string s2] 140 (0, 0))) ∧ Below B w w' := by
 have c1 : w.cell? ⟨g, 1, none⟩ = some (.pointer p1) := (blk_cell h 1).trans rfl
 have c2 : w.cell? ⟨g, 2, none⟩ = some (.string s2) := (blk_cell h 2).trans rfl
 have HW := mkA hw
 clear h hB hw
 go_enter Tryz.func113, Tryz.ntmps113
 go_wp2
 go_region_held3 (fun u => u.cell? ⟨g, 1, none⟩ = some (.pointer p1) ∧ u.cell? ⟨g, 2, none⟩ = some (.string s2)) (go_keep) (fail)
 go_wp2
 go_ret
 exact ⟨⟨_, _, rfl, HW.out, heap_alloc_new w _⟩, by first | exact below_drew1 ((Below.refl B w).alloc HW.out _) | exact (Below.refl B w).alloc HW.out _ | exact below_drew1 (below_drew1 ((Below.refl B w).alloc HW.out _)) | exact pw_below_drewN ((Below.refl B w).alloc HW.out _) _⟩
set_option maxHeartbeats 4000000 in
set_option maxRecDepth 100000 in
theorem newListV {w : World} {B g : Nat} {k : ByteArray} {p1 : Option Addr} {a2 : Option Addr} {n2 q2 : Nat} (h : w.heap[g]? = some (.cells #[.string k, .pointer p1, .slice a2 n2 q2] 144 (0, 0))) (hB : B ≤ g) (hw : B ≤ w.heap.size) :
 Calls Tryz.prog 139 #[ptr g] w fun e w' => (∃ (g' : Nat) (k' : ByteArray), e = .returned (ptr g') ∧ B ≤ g' ∧ w'.heap[g']? = some (.cells #[.string k', .pointer p1, .slice a2 n2 q2] 144 (0, 0))) ∧ Below B w w' := by
 have c1 : w.cell? ⟨g, 1, none⟩ = some (.pointer p1) := (blk_cell h 1).trans rfl
 have c2 : w.cell? ⟨g, 2, none⟩ = some (.slice a2 n2 q2) := (blk_cell h 2).trans rfl
 have HW := mkA hw
 clear h hB hw
 go_enter Tryz.func139, Tryz.ntmps139
 go_wp2
 go_region_held3 (fun u => u.cell? ⟨g, 1, none⟩ = some (.pointer p1) ∧ u.cell? ⟨g, 2, none⟩ = some (.slice a2 n2 q2)) (go_keep) (fail)
 go_wp2
 go_ret
 exact ⟨⟨_, _, rfl, HW.out, heap_alloc_new w _⟩, by first | exact below_drew1 ((Below.refl B w).alloc HW.out _) | exact (Below.refl B w).alloc HW.out _ | exact below_drew1 (below_drew1 ((Below.refl B w).alloc HW.out _)) | exact pw_below_drewN ((Below.refl B w).alloc HW.out _) _⟩
set_option maxHeartbeats 4000000 in
set_option maxRecDepth 100000 in
theorem newObj {w : World} {B g : Nat} {k : ByteArray} {p1 : Option Addr} {a2 : Option Addr} {n2 q2 : Nat} (h : w.heap[g]? = some (.cells #[.string k, .pointer p1, .slice a2 n2 q2] 148 (0, 0))) (hB : B ≤ g) (hw : B ≤ w.heap.size) :
 Calls Tryz.prog 141 #[ptr g] w fun e w' => (∃ (g' : Nat) (k' : ByteArray), e = .returned (ptr g') ∧ B ≤ g' ∧ w'.heap[g']? = some (.cells #[.string k', .pointer p1, .slice a2 n2 q2] 148 (0, 0))) ∧ Below B w w' := by
 have c1 : w.cell? ⟨g, 1, none⟩ = some (.pointer p1) := (blk_cell h 1).trans rfl
 have c2 : w.cell? ⟨g, 2, none⟩ = some (.slice a2 n2 q2) := (blk_cell h 2).trans rfl
 have HW := mkA hw
 clear h hB hw
 go_enter Tryz.func141, Tryz.ntmps141
 go_wp2
 go_region_held3 (fun u => u.cell? ⟨g, 1, none⟩ = some (.pointer p1) ∧ u.cell? ⟨g, 2, none⟩ = some (.slice a2 n2 q2)) (go_keep) (fail)
 go_wp2
 go_ret
 exact ⟨⟨_, _, rfl, HW.out, heap_alloc_new w _⟩, by first | exact below_drew1 ((Below.refl B w).alloc HW.out _) | exact (Below.refl B w).alloc HW.out _ | exact below_drew1 (below_drew1 ((Below.refl B w).alloc HW.out _)) | exact pw_below_drewN ((Below.refl B w).alloc HW.out _) _⟩
set_option maxHeartbeats 4000000 in
set_option maxRecDepth 100000 in
theorem newObjF {w : World} {B g : Nat} {k : ByteArray} {p1 : Option Addr} {p2 : Option Addr} {t3 : TypeId} {x3 : Value} (h : w.heap[g]? = some (.cells #[.string k, .pointer p1, .pointer p2, .iface t3 x3] 151 (0, 0))) (hB : B ≤ g) (hw : B ≤ w.heap.size) :
 Calls Tryz.prog 153 #[ptr g] w fun e w' => (∃ (g' : Nat) (k' : ByteArray), e = .returned (ptr g') ∧ B ≤ g' ∧ w'.heap[g']? = some (.cells #[.string k', .pointer p1, .pointer p2, .iface t3 x3] 151 (0, 0))) ∧ Below B w w' := by
 have c1 : w.cell? ⟨g, 1, none⟩ = some (.pointer p1) := (blk_cell h 1).trans rfl
 have c2 : w.cell? ⟨g, 2, none⟩ = some (.pointer p2) := (blk_cell h 2).trans rfl
 have c3 : w.cell? ⟨g, 3, none⟩ = some (.iface t3 x3) := (blk_cell h 3).trans rfl
 have HW := mkA hw
 clear h hB hw
 go_enter Tryz.func153, Tryz.ntmps153
 go_wp2
 go_region_held3 (fun u => u.cell? ⟨g, 1, none⟩ = some (.pointer p1) ∧ u.cell? ⟨g, 2, none⟩ = some (.pointer p2) ∧ u.cell? ⟨g, 3, none⟩ = some (.iface t3 x3)) (go_keep) (fail)
 go_wp2
 go_ret
 exact ⟨⟨_, _, rfl, HW.out, heap_alloc_new w _⟩, by first | exact below_drew1 ((Below.refl B w).alloc HW.out _) | exact (Below.refl B w).alloc HW.out _ | exact below_drew1 (below_drew1 ((Below.refl B w).alloc HW.out _)) | exact pw_below_drewN ((Below.refl B w).alloc HW.out _) _⟩
def Got {A : Type} (C : Cx) (w : World) (res : O (A × List Tk)) (P : Ok → World → A → Value → Prop) (e : Ending) (w' : World) : Prop :=
 FrC C w w' ∧ match res with
 | .out => True
 | .bad => PB C w' ∧ ∃ (v : Value) (te : TypeId) (x : Value), e = .returned (.tuple #[v, .iface te x])
 | .ok (a, l) => ∃ (v : Value) (u : Tk) (r' : List Tk), l = u :: r' ∧ PS C w' u r' ∧ P (from_ w.heap.size) w' a v ∧ e = .returned (.tuple #[v, .nilIface])
theorem adv_nil {t : Tk} (h : t.k ≠ 1) : adv [t] = .bad := by simp [adv, h]
theorem adv_cons {t u : Tk} {r : List Tk} (h : t.k ≠ 1) : adv (t :: u :: r) = .ok (u :: r) := by simp [adv, h]
theorem must_no {k : Int} {t : Tk} {r : List Tk} (h : t.k ≠ k) : must k (t :: r) = .bad := by unfold must; rw [if_neg (by exact h)]
theorem must_yes {k : Int} {t : Tk} {r : List Tk} (h : t.k = k) : must k (t :: r) = adv (t :: r) := by unfold must; rw [if_pos (by exact h)]
theorem loc_ps {C : Cx} {w : World} {t : Tk} {r : List Tk} (h : PS C w t r) (a : Int) : Calls Tryz.prog 59 #[ptr C.gp, .int .i64 a] w fun e w' => (∃ g' : Nat, e = .returned (ptr g') ∧ LocA (from_ w.heap.size) w' (ptr g')) ∧ Below w.heap.size w w' := by
 obtain ⟨pe, hp⟩ := h.par
 refine (loc_walk' a hp).mono ?_
 rintro e w' ⟨⟨g', rfl, hg, hg'⟩, hb⟩
 exact ⟨⟨g', rfl, g', a, pe, _, rfl, hg, hg'⟩, hb⟩
theorem parseName_walk {C : Cx} {w : World} {t : Tk} {r : List Tk} (h : PS C w t r) : Calls Tryz.prog 102 #[ptr C.gp] w (Got C w (pName (t :: r)) (fun ok w' v p => NameA ok w' p v)) := by
 have HP0 := mkA h
 by_cases hk15 : t.k = 15
 ·have h1 : t.k ≠ 1 := by omega
  have hb : (t.k == 15) = true := beq_iff_eq.2 hk15
  have CE := mkA (expect_yes h 15 hb h1)
  cases r with
  | nil =>
    have er : pName [t] = .bad := by unfold pName; rw [if_pos (by exact hk15), adv_nil h1]; rfl
    rw [er]
    clear h h1 hb hk15 er

    go_enter Tryz.func102, Tryz.ntmps102
    go_wp2_with (first
     | (go_at_call 79; (with_reducible refine CE.out.mono ?_); rintro e w1 ⟨hF, hP, te, x, rfl⟩; have HF := mkA hF; have HP := mkA hP; clear hF hP)
     | ((with_reducible refine gate_dst (N := 4) rfl ?_); refine box_event ?hg (N := 4) ?hd (cs := #[.int .i64 0, .int .i64 0, .int .i64 0, .string ⟨#[]⟩]) (t := 63) ?hr ?_; (case hd => rfl); (case hg => rfl); (case hr => first | (go_simp; done) | (go_simp; rfl)); intro gt hg w2 hbox hb; have HB := mkA (HF.out.step hb); have GT := mkA ((by rw [hg]; exact HF.out.size : w.heap.size ≤ gt)); have GT2 := mkA (show C.lo ≤ gt by rw [hg]; exact Nat.le_trans HP0.out.lo HF.out.size); have HQ := mkA (HP.out.below hb); have BT := mkA hbox; have NP := mkA (show gt ≠ C.gp from by have := HP0.out.ok.pl; have := GT2.out; omega); clear hb hbox hg; obtain ⟨tz0, tz1, tz2, tz3, tf0, tf1, tf2, tf3⟩ := tkz BT.out))
    go_ret2
    exact ⟨HB.out.p4 (.inr (.inr GT.out)), HQ.out.p4 NP.out, _, te, x, rfl⟩
  | cons u r =>
    have er : pName (t :: u :: r) = .ok (t.v, u :: r) := by unfold pName; rw [if_pos (by exact hk15), adv_cons h1]; rfl
    rw [er]
    clear h h1 hb hk15 er
    go_enter Tryz.func102, Tryz.ntmps102
    go_upto_region 4 with (first
     | (go_at_call 79; (with_reducible refine CE.out.mono ?_); rintro e w1 ⟨hF, hP, rfl⟩; have HF := mkA hF; have HP := mkA hP; clear hF hP)
     | ((with_reducible refine gate_dst (N := 4) rfl ?_); refine box_event ?hg (N := 4) ?hd (cs := #[.int .i64 0, .int .i64 0, .int .i64 0, .string ⟨#[]⟩]) (t := 63) ?hr ?_; (case hd => rfl); (case hg => rfl); (case hr => first | (go_simp; done) | (go_simp; rfl)); intro gt hg w2 hbox hb; have HB := mkA (HF.out.step hb); have GT := mkA ((by rw [hg]; exact HF.out.size : w.heap.size ≤ gt)); have GT2 := mkA (show C.lo ≤ gt by rw [hg]; exact Nat.le_trans HP0.out.lo HF.out.size); have HQ := mkA (HP.out.below hb); have BT := mkA hbox; have NP := mkA (show gt ≠ C.gp from by have := HP0.out.ok.pl; have := GT2.out; omega); clear hb hbox hg; obtain ⟨tz0, tz1, tz2, tz3, tf0, tf1, tf2, tf3⟩ := tkz BT.out))
    obtain ⟨w3, hw3⟩ : ∃ w3, w3 = (((w2.setCell ⟨gt, 0, none⟩ (.int .i64 t.k)).setCell ⟨gt, 1, none⟩ (.int .i64 t.a)).setCell ⟨gt, 2, none⟩ (.int .i64 t.z)).setCell ⟨gt, 3, none⟩ (.string t.v) := ⟨_, rfl⟩
    have n0_ := mkA (show FrC C w w3 by rw [hw3]; exact HB.out.p4 (.inr (.inr GT.out)))
    have n1_ := mkA (show w3.heap[gt]? = some (.cells #[.int .i64 t.k, .int .i64 t.a, .int .i64 t.z, .string t.v] 63 (0, 0)) by rw [hw3]; exact tkp BT.out)
    have n2_ := mkA (show PS C w3 u r by rw [hw3]; exact HQ.out.p4 GT2.out)
    rw [← hw3]
    clear HB BT HQ HP HF hw3 tz0 tz1 tz2 tz3 tf0 tf1 tf2 tf3
    have HB := n0_; have BT := n1_; have HQ := n2_
    clear n0_ n1_ n2_
    have sx0 : w3.cell? ⟨gt, 3, none⟩ = some (.string t.v) := (blk_cell BT.out 3).trans rfl
    have sx1 : w3.cell? ⟨gt, 1, none⟩ = some (.int .i64 t.a) := (blk_cell BT.out 1).trans rfl
    have K0 : ∀ u, Below w3.heap.size w3 u → (u.cell? ⟨gt, 3, none⟩ = some (.string t.v) ∧ u.cell? ⟨gt, 1, none⟩ = some (.int .i64 t.a)) ∧ Below w3.heap.size w3 u := fun u hu => ⟨⟨(hu.cell (World.block_lt_of_cell? _ _ sx0)).trans sx0, (hu.cell (World.block_lt_of_cell? _ _ sx1)).trans sx1⟩, hu⟩
    have cL := mkA (fun (u : World) (hu : Below w3.heap.size w3 u) (a : Int) => (show Calls Tryz.prog 59 #[ptr C.gp, .int .i64 a] u fun e w' => (∃ g' : Nat, e = .returned (ptr g') ∧ LocA (from_ w3.heap.size) w' (ptr g')) ∧ Below w3.heap.size w3 w' from (loc_ps (HQ.out.below hu) a).mono fun e w' q => by obtain ⟨⟨g', q1, q2⟩, q3⟩ := q; exact ⟨⟨g', q1, q2.fr (keeps_weak hu.size)⟩, below_step hu q3⟩))
    have LO := mkA (show w.heap.size ≤ w3.heap.size from HB.out.size)
    go_region_held3 (fun u => (u.cell? ⟨gt, 3, none⟩ = some (.string t.v) ∧ u.cell? ⟨gt, 1, none⟩ = some (.int .i64 t.a)) ∧ Below w3.heap.size w3 u) (first | exact K0 _ (Below.refl _ _) | exact K0 _ (below_drew1 (Below.refl _ _)) | exact K0 _ (below_drew1 (below_alloc (Below.refl _ _) _)) | exact hS9 | exact hS5 | exact hS6 | fail) (first
     | (go_at_call 59; refine (cL.out _ ?_ _).mono ?_; (first | exact below_drew1 (Below.refl _ _) | exact Below.refl _ _); rintro e w5 ⟨⟨gl, rfl, hgl⟩, hW5⟩; have hS5 := K0 _ hW5; have hS6 := K0 _ (below_alloc hW5 (.cells #[.string ⟨#[]⟩, ptr gl, .string t.v] 118)); have cN := (show Calls Tryz.prog 135 #[ptr w5.heap.size] (w5.alloc (.cells #[.string ⟨#[]⟩, ptr gl, .string t.v] 118)) fun e w' => ∃ (g9 : Nat) (k9 : ByteArray), e = .returned (ptr g9) ∧ w.heap.size ≤ g9 ∧ w'.heap[g9]? = some (.cells #[.string k9, ptr gl, .string t.v] 118 (0, 0)) ∧ Below w5.heap.size w5 w' from (newName (B := w5.heap.size) (heap_alloc_new w5 _) (Nat.le_refl _) (below_alloc (Below.refl w5.heap.size w5) _).size).mono fun e w' q => by obtain ⟨⟨g9, k9, q1, q2, q3⟩, q4⟩ := q; exact ⟨g9, k9, q1, Nat.le_trans (Nat.le_trans LO.out hW5.size) q2, q3, (below_alloc (Below.refl w5.heap.size w5) _).trans q4⟩))
     | (go_at_call 135; refine cN.mono ?_; rintro e w9 ⟨g9, k9, rfl, h90, h91, hX⟩; have hW9 := below_step hW5 hX; have hS9 := K0 _ hW9)
     | fail)
    go_wp2
    go_ret2
    exact ⟨HB.out.step hW9, _, _, _, rfl, HQ.out.below hW9, ⟨g9, k9, _, rfl, h90, h91⟩, rfl⟩
 ·have hb : (t.k == 15) = false := beq_eq_false_iff_ne.2 hk15
  have CE := mkA (expect_no h 15 hb)
  have er : pName (t :: r) = .bad := by unfold pName; rw [if_neg (by exact hk15)]
  rw [er]
  clear h hb hk15 er
  go_enter Tryz.func102, Tryz.ntmps102
  go_wp2_with (first
   | (go_at_call 79; (with_reducible refine CE.out.mono ?_); rintro e w1 ⟨hF, hP, te, x, rfl⟩; have HF := mkA hF; have HP := mkA hP; clear hF hP)
   | ((with_reducible refine gate_dst (N := 4) rfl ?_); refine box_event ?hg (N := 4) ?hd (cs := #[.int .i64 0, .int .i64 0, .int .i64 0, .string ⟨#[]⟩]) (t := 63) ?hr ?_; (case hd => rfl); (case hg => rfl); (case hr => first | (go_simp; done) | (go_simp; rfl)); intro gt hg w2 hbox hb; have HB := mkA (HF.out.step hb); have GT := mkA ((by rw [hg]; exact HF.out.size : w.heap.size ≤ gt)); have GT2 := mkA (show C.lo ≤ gt by rw [hg]; exact Nat.le_trans HP0.out.lo HF.out.size); have HQ := mkA (HP.out.below hb); have BT := mkA hbox; have NP := mkA (show gt ≠ C.gp from by have := HP0.out.ok.pl; have := GT2.out; omega); clear hb hbox hg; obtain ⟨tz0, tz1, tz2, tz3, tf0, tf1, tf2, tf3⟩ := tkz BT.out))
  go_ret2
  exact ⟨HB.out.p4 (.inr (.inr GT.out)), HQ.out.p4 NP.out, _, te, x, rfl⟩
def ExpP (C : Cx) (w : World) (res : O (List Tk)) (t : Tk) (e : Ending) (w' : World) : Prop :=
 FrC C w w' ∧ match res with
 | .out => True
 | .bad => PB C w' ∧ ∃ (te : TypeId) (x : Value), e = .returned (.tuple #[tokV t, .iface te x])
 | .ok l => ∃ (u : Tk) (r' : List Tk), l = u :: r' ∧ PS C w' u r' ∧ e = .returned (.tuple #[tokV t, .nilIface])
theorem expect_walk {C : Cx} {w : World} {t : Tk} {r : List Tk} (h : PS C w t r) (k : Int) (h1 : k ≠ 1) : Calls Tryz.prog 79 #[ptr C.gp, .int .i64 k] w (ExpP C w (must k (t :: r)) t) := by
 by_cases hk : t.k = k
 ·have ht : t.k ≠ 1 := by rw [hk]; exact h1
  rw [must_yes hk]
  refine (expect_yes h k (beq_iff_eq.2 hk) ht).mono ?_
  rintro e w' ⟨hF, hq⟩
  cases r with
  | nil => rw [adv_nil ht]; exact ⟨hF, hq⟩
  | cons u r => rw [adv_cons ht]; exact ⟨hF, u, r, rfl, hq.1, hq.2⟩
 ·rw [must_no hk]
  exact (expect_no h k (beq_eq_false_iff_ne.2 hk)).mono fun e w' q => q
def NamedA (ok : Ok) (w : World) (p : Value) (v : ByteArray) : Prop := ∃ (g : Nat) (k : ByteArray) (l n : Value), p = ptr g ∧ At ok w g #[.string k, l, n] 123 ∧ LocA ok w l ∧ NameA ok w n v
def VarA (ok : Ok) (w : World) (p : Value) (v : ByteArray) : Prop := ∃ (g : Nat) (k : ByteArray) (l n : Value), p = ptr g ∧ At ok w g #[.string k, l, n] 83 ∧ LocA ok w l ∧ NameA ok w n v
theorem NamedA.fr {ok ok' : Ok} {w w' : World} {p : Value} {v : ByteArray} (h : NamedA ok w p v) (hf : Keeps ok ok' w w') : NamedA ok' w' p v := by
 obtain ⟨g, k, l, n, h1, h2, h3, h4⟩ := h; exact ⟨g, k, l, n, h1, h2.fr hf, h3.fr hf, h4.fr hf⟩
theorem VarA.fr {ok ok' : Ok} {w w' : World} {p : Value} {v : ByteArray} (h : VarA ok w p v) (hf : Keeps ok ok' w w') : VarA ok' w' p v := by
 obtain ⟨g, k, l, n, h1, h2, h3, h4⟩ := h; exact ⟨g, k, l, n, h1, h2.fr hf, h3.fr hf, h4.fr hf⟩
theorem NameA.ptr {ok : Ok} {w : World} {p : Value} {v : ByteArray} (h : NameA ok w p v) : ∃ g, p = R.ptr g := by obtain ⟨g, _, _, h, _⟩ := h; exact ⟨g, h⟩
theorem parseNamed_walk {C : Cx} {w : World} {t : Tk} {r : List Tk} (h : PS C w t r) (hne : ((pName (t :: r)).bind fun n => .ok (n.1, n.2)) ≠ .out) : Calls Tryz.prog 105 #[ptr C.gp] w (Got C w ((pName (t :: r)).bind fun n => .ok (n.1, n.2)) (fun ok w' v p => NamedA ok w' p v)) := by
 have HP := mkA h
 have OK := mkA h.ok
 have LOW := mkA h.lo
 have c6 := h.cells.2.2.1
 have HB := mkA (Fr.refl C.gp C.gc w)
 clear h
 cases e_ : pName (t :: r) with
 | out => rw [e_] at hne; exact absurd rfl hne
 | bad =>
   simp only [O.bind_bad]; have E0 := mkA e_; clear e_ hne
   go_enter Tryz.func105, Tryz.ntmps105
   go_wp2_with (first
    | (go_at_call 102; have c_ := parseName_walk HP.out; rw [E0.out] at c_; (with_reducible refine c_.mono ?_); rintro e w0 ⟨hF, hP, v_, te, x, rfl⟩; have HS_ := mkA HB.out.size; have n_ := mkA (HB.out.trans hF); clear HB; have HB := n_; clear n_; have HP0 := mkA hP; clear hP hF HS_ E0))
   go_ret2
   exact ⟨HB.out, HP0.out, _, te, x, rfl⟩
 | ok a_ =>
   obtain ⟨v0, l0⟩ := a_
   rw [e_] at hne; simp only [O.bind_ok] at hne ⊢; have E0 := mkA e_; clear e_
   clear hne
   go_enter Tryz.func105, Tryz.ntmps105
   go_wp2_with (first
    | (go_at_call 102; have c_ := parseName_walk HP.out; rw [E0.out] at c_; (with_reducible refine c_.mono ?_); rintro e w0 ⟨hF, p0, u0, r0, hl_, hP, hN, rfl⟩; subst hl_; obtain ⟨gq0, rfl⟩ := NameA.ptr hN; have HS_ := mkA HB.out.size; have n_ := mkA (HB.out.trans hF); clear HB; have HB := n_; clear n_; have N0 := mkA (hN.fr (keeps_weak (Nat.le_refl _))); clear hN; have HP0 := mkA hP; clear hP hF HS_ E0)
    | (go_at_call 59; (with_reducible refine (loc_ps HP0.out _).mono ?_); rintro e wl ⟨⟨gl, rfl, hgl⟩, hBl⟩; have HL := mkA hgl; have HBl := mkA hBl; clear hgl hBl)
    | (go_at_call 136; (with_reducible refine (newNamed (B := wl.heap.size) (heap_alloc_new wl _) (Nat.le_refl _) (below_alloc (Below.refl wl.heap.size wl) _).size).mono ?_); rintro e w9 ⟨⟨g9, k9, rfl, q1, h91⟩, q4⟩; have HX := mkA ((below_alloc (Below.refl wl.heap.size wl) _).trans q4); have HW := mkA (below_step HBl.out HX.out); have H90 := mkA (Nat.le_trans (Nat.le_trans HB.out.size HBl.out.size) q1); have H91 := mkA h91; clear q1 q4 h91))
   go_ret2
   have KX := keeps_below (ok := from_ w0.heap.size) (ok' := from_ w.heap.size) HX.out (fun g hg => Nat.le_trans HB.out.size hg); have KW := keeps_below (ok := from_ w.heap.size) HW.out (fun g hg => hg); exact ⟨HB.out.step HW.out, _, _, _, rfl, HP0.out.below HW.out, ⟨g9, k9, _, _, rfl, ⟨H90.out, H91.out⟩, HL.out.fr KX, N0.out.fr KW⟩, rfl⟩
theorem parseVariable_walk {C : Cx} {w : World} {t : Tk} {r : List Tk} (h : PS C w t r) (hne : ((must 3 (t :: r)).bind fun r => (pName r).bind fun n => .ok (n.1, n.2)) ≠ .out) : Calls Tryz.prog 82 #[ptr C.gp] w (Got C w ((must 3 (t :: r)).bind fun r => (pName r).bind fun n => .ok (n.1, n.2)) (fun ok w' v p => VarA ok w' p v)) := by
 have HP := mkA h
 have OK := mkA h.ok
 have LOW := mkA h.lo
 have c6 := h.cells.2.2.1
 have HB := mkA (Fr.refl C.gp C.gc w)
 clear h
 cases e_ : must 3 (t :: r) with
 | out => rw [e_] at hne; exact absurd rfl hne
 | bad =>
   simp only [O.bind_bad]; have E0 := mkA e_; clear e_ hne
   go_enter Tryz.func82, Tryz.ntmps82
   go_wp2_with (first
    | (go_at_call 79; have c_ := expect_walk HP.out 3 (by decide); rw [E0.out] at c_; (with_reducible refine c_.mono ?_); rintro e w0 ⟨hF, hP, te, x, rfl⟩; have HS_ := mkA HB.out.size; have n_ := mkA (HB.out.trans hF); clear HB; have HB := n_; clear n_; have HP0 := mkA hP; clear hP hF HS_ E0))
   go_ret2
   exact ⟨HB.out, HP0.out, _, te, x, rfl⟩
 | ok l0 =>
   rw [e_] at hne; simp only [O.bind_ok] at hne ⊢; have E0 := mkA e_; clear e_
   cases e_ : pName l0 with
   | out => rw [e_] at hne; exact absurd rfl hne
   | bad =>
     simp only [O.bind_bad]; have E1 := mkA e_; clear e_ hne
     go_enter Tryz.func82, Tryz.ntmps82
     go_wp2_with (first
      | (go_at_call 79; have c_ := expect_walk HP.out 3 (by decide); rw [E0.out] at c_; (with_reducible refine c_.mono ?_); rintro e w0 ⟨hF, u0, r0, hl_, hP, rfl⟩; subst hl_; have HS_ := mkA HB.out.size; have n_ := mkA (HB.out.trans hF); clear HB; have HB := n_; clear n_; have HP0 := mkA hP; clear hP hF HS_ E0)
      | (go_at_call 102; have c_ := parseName_walk HP0.out; rw [E1.out] at c_; (with_reducible refine c_.mono ?_); rintro e w1 ⟨hF, hP, v_, te, x, rfl⟩; have HS_ := mkA HB.out.size; have n_ := mkA (HB.out.trans hF); clear HB; have HB := n_; clear n_; have HP1 := mkA hP; clear hP hF HS_ E1))
     go_ret2
     exact ⟨HB.out, HP1.out, _, te, x, rfl⟩
   | ok a_ =>
     obtain ⟨v1, l1⟩ := a_
     rw [e_] at hne; simp only [O.bind_ok] at hne ⊢; have E1 := mkA e_; clear e_
     clear hne
     go_enter Tryz.func82, Tryz.ntmps82
     go_wp2_with (first
      | (go_at_call 79; have c_ := expect_walk HP.out 3 (by decide); rw [E0.out] at c_; (with_reducible refine c_.mono ?_); rintro e w0 ⟨hF, u0, r0, hl_, hP, rfl⟩; subst hl_; have HS_ := mkA HB.out.size; have n_ := mkA (HB.out.trans hF); clear HB; have HB := n_; clear n_; have HP0 := mkA hP; clear hP hF HS_ E0)
      | (go_at_call 102; have c_ := parseName_walk HP0.out; rw [E1.out] at c_; (with_reducible refine c_.mono ?_); rintro e w1 ⟨hF, p1, u1, r1, hl_, hP, hN, rfl⟩; subst hl_; obtain ⟨gq1, rfl⟩ := NameA.ptr hN; have HS_ := mkA HB.out.size; have n_ := mkA (HB.out.trans hF); clear HB; have HB := n_; clear n_; have N1 := mkA (hN.fr (keeps_weak (HS_.out))); clear hN; have HP1 := mkA hP; clear hP hF HS_ E1)
      | (go_at_call 59; (with_reducible refine (loc_ps HP1.out _).mono ?_); rintro e wl ⟨⟨gl, rfl, hgl⟩, hBl⟩; have HL := mkA hgl; have HBl := mkA hBl; clear hgl hBl)
      | (go_at_call 103; (with_reducible refine (newVariable (B := wl.heap.size) (heap_alloc_new wl _) (Nat.le_refl _) (below_alloc (Below.refl wl.heap.size wl) _).size).mono ?_); rintro e w9 ⟨⟨g9, k9, rfl, q1, h91⟩, q4⟩; have HX := mkA ((below_alloc (Below.refl wl.heap.size wl) _).trans q4); have HW := mkA (below_step HBl.out HX.out); have H90 := mkA (Nat.le_trans (Nat.le_trans HB.out.size HBl.out.size) q1); have H91 := mkA h91; clear q1 q4 h91))
     go_ret2
     have KX := keeps_below (ok := from_ w1.heap.size) (ok' := from_ w.heap.size) HX.out (fun g hg => Nat.le_trans HB.out.size hg); have KW := keeps_below (ok := from_ w.heap.size) HW.out (fun g hg => hg); exact ⟨HB.out.step HW.out, _, _, _, rfl, HP1.out.below HW.out, ⟨g9, k9, _, _, rfl, ⟨H90.out, H91.out⟩, HL.out.fr KX, N1.out.fr KW⟩, rfl⟩
end Go.Proofs.YthgcghpcikbnkaaGreatDoor.R
