/-
  LawS5880AWhole: what the walks share: the zero value of a leaf under a name of its own, and comparisons of pointers.
-/
import Derived.Test.YbulkdqteRows
import Derived.WalkKit
import Derived.ProofKit
import Derived.OpenShut
import Derived.ShutString
import Derived.LaidEqlPtr
namespace Go.Proofs.Ybulkdqte.lawS5880AWhole
open Go.ChangeShapes Go.WideShapes Go.ChangeAt Go.RowKit
def leafZ : Array Value := (([Value.int .i64 0, Value.int .i64 0, Value.pointer none, Value.pointer none, Value.pointer none, Value.pointer none, Value.pointer none, Value.bool false] : List Value) ++ (List.replicate 64 [Value.int .u64 0, Value.int .u64 0, Value.int .u64 0, Value.int .u64 0, Value.int .u64 0, Value.pointer none]).flatten).toArray
theorem zero44 (w : World) : (zeroValue 44).run Yba.prog w = .ok (.agg leafZ) w := by kernel_rfl
theorem leafZ_size : leafZ.size = 392 := by kernel_rfl
theorem leafZ_4 (h : 4 < leafZ.size) : leafZ[4] = .pointer none := by kernel_rfl
theorem leafZ_5 (h : 5 < leafZ.size) : leafZ[5] = .pointer none := by kernel_rfl
theorem leafZ_6 (h : 6 < leafZ.size) : leafZ[6] = .pointer none := by kernel_rfl
theorem size44 : (Yba.prog.info? 44).map (·.size) = some 392 := by kernel_rfl
theorem eql_same (a : Addr) (w : World) : (binOp .eql 25 (.pointer (some a)) (.pointer (some a))).run Yba.prog w = .ok (.bool true) w := by
  obtain ⟨j, hj, -⟩ := Option.map_eq_some_iff.1 size44
  exact run_eql_ptr_same w a Yba.underlying25 hj
theorem neq_same (a : Addr) (w : World) : (binOp .neq 25 (.pointer (some a)) (.pointer (some a))).run Yba.prog w = .ok (.bool false) w := by
  obtain ⟨j, hj, -⟩ := Option.map_eq_some_iff.1 size44
  have h : ∀ d : Nat, (Op.equalIn (d + 1) 25 (.pointer (some a)) (.pointer (some a))).run Yba.prog w = .ok true w := fun d => by
    simp [Op.equalIn, run_underlying Yba.underlying25, sizeOf, typeInfo, hj, run_sameAddr_same]
  simp only [binOp]
  simp [Op.equal, Op.maxDepth, h 9999]
theorem eql_us7 (w : World) (o0 o2 o4 o5 o6 : Obj) (c1 c3 : Array Value) :
    (binOp .eql 25 (.pointer (some ⟨w.heap.size + 1, 0, none⟩)) (.pointer (some ⟨w.heap.size + 1 + 1 + 1, 0, none⟩))).run Yba.prog
      (((((((w.alloc o0).alloc (.cells c1 44)).alloc o2).alloc (.cells c3 44)).alloc o4).alloc o5).alloc o6) =
    .ok (.bool false) (((((((w.alloc o0).alloc (.cells c1 44)).alloc o2).alloc (.cells c3 44)).alloc o4).alloc o5).alloc o6) := by
  obtain ⟨j, hj, hs⟩ := Option.map_eq_some_iff.1 size44
  refine run_eql_ptr_other _ (ca := c1) (cb := c3) (ta := 44) (tb := 44) Yba.underlying25 hj (by omega) (by simp) ?_ ?_
  · show (((((((w.heap.push _).push _).push _).push _).push _).push _).push _)[w.heap.size + 1]? = _
    simp only [Array.getElem?_push, Array.size_push]
    simp
  · show (((((((w.heap.push _).push _).push _).push _).push _).push _).push _)[w.heap.size + 1 + 1 + 1]? = _
    simp only [Array.getElem?_push, Array.size_push]
    simp
theorem eql_us8 (w : World) (o0 o2 o4 o5 o6 o7 : Obj) (c1 c3 : Array Value) :
    (binOp .eql 25 (.pointer (some ⟨w.heap.size + 1, 0, none⟩)) (.pointer (some ⟨w.heap.size + 1 + 1 + 1, 0, none⟩))).run Yba.prog
      ((((((((w.alloc o0).alloc (.cells c1 44)).alloc o2).alloc (.cells c3 44)).alloc o4).alloc o5).alloc o6).alloc o7) =
    .ok (.bool false) ((((((((w.alloc o0).alloc (.cells c1 44)).alloc o2).alloc (.cells c3 44)).alloc o4).alloc o5).alloc o6).alloc o7) := by
  obtain ⟨j, hj, hs⟩ := Option.map_eq_some_iff.1 size44
  refine run_eql_ptr_other _ (ca := c1) (cb := c3) (ta := 44) (tb := 44) Yba.underlying25 hj (by omega) (by simp) ?_ ?_
  · show ((((((((w.heap.push _).push _).push _).push _).push _).push _).push _).push _)[w.heap.size + 1]? = _
    simp only [Array.getElem?_push, Array.size_push]
    simp
  · show ((((((((w.heap.push _).push _).push _).push _).push _).push _).push _).push _)[w.heap.size + 1 + 1 + 1]? = _
    simp only [Array.getElem?_push, Array.size_push]
    simp
end Go.Proofs.Ybulkdqte.lawS5880AWhole
