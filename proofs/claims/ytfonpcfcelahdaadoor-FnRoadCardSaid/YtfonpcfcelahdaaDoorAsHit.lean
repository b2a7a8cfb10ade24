/-
  errors.As at a CorruptInputError: the walk (turned from the kit's worked example ToyasAs).
-/
import Derived.Test.YtfonpcfcelahdaaDoorAs
namespace Go.Proofs.YtfonpcfcelahdaaDoor
open Go.RowKit Go.Extern.Stop Go.Stop Go.Extern

set_option maxRecDepth 100000 in
set_option maxHeartbeats 4000000 in
theorem as_hit (e : Int) (t : Addr) (old : Value) (w : World) (hg : w.cell? ⟨1, 0, none⟩ = some (.iface 92 (.agg #[.pointer (some ⟨3, 41, none⟩)]))) (ht0 : w.cell? t = some old) (hf0 : w.frozen? t = false) :
    Calls Tryd.prog 22 #[.iface 65 (.int .i64 e), .iface 67 (.pointer (some t))] w fun ev w' => ev = .returned (.bool true) ∧ w' = ((((w.alloc (.cells #[.pointer (some t)] 67)).alloc (.cells #[.pointer (some ⟨3, 67, none⟩), .pointer (some ⟨w.heap.size, 0, none⟩), .int .u64 150] 81)).alloc (.cells #[.pointer (some ⟨3, 67, none⟩), .pointer (some ⟨w.heap.size, 0, none⟩), .int .u64 150] 81)).alloc (.cells #[.int .i64 e] 65)).setCell t (.int .i64 e) := by
  have h6 := @run_callFunc_extern Tryd.prog 23 _ (fun args => ReflectliteValue.unpack (args.getD 0 (.tuple #[]))) Tryd.func23 (by kernel_rfl) (by kernel_rfl) (by kernel_rfl) (by kernel_rfl)
  have h7 := @run_callFunc_extern Tryd.prog 24 _ (ReflectliteValue.methodAny (ReflectliteValue.valueError "reflectlite.Value.Type" 0) (fun t _ _ _ => ReflectliteType.toType t)) Tryd.func24 (by kernel_rfl) (by kernel_rfl) (by kernel_rfl) (by kernel_rfl)
  have h8 := @run_callFunc_extern Tryd.prog 25 _ (ReflectliteValue.method (ReflectliteValue.valueError "reflectlite.Value.IsNil" 0) ReflectliteValue.isNil) Tryd.func25 (by kernel_rfl) (by kernel_rfl) (by kernel_rfl) (by kernel_rfl)
  have h27 := @run_callFunc_extern Tryd.prog 44 _ (ReflectliteType.abiMethod fun t => do pure (.int .u8 (← Rtype.kind t))) Tryd.func44 (by kernel_rfl) (by kernel_rfl) (by kernel_rfl) (by kernel_rfl)
  have h37 := @run_callFunc_extern Tryd.prog 69 _ (ReflectliteType.method ReflectliteType.elem) Tryd.func69 (by kernel_rfl) (by kernel_rfl) (by kernel_rfl) (by kernel_rfl)
  have h38 := @run_callFunc_extern Tryd.prog 70 _ (ReflectliteType.relation "Implements" ReflectliteType.implements_) Tryd.func70 (by kernel_rfl) (by kernel_rfl) (by kernel_rfl) (by kernel_rfl)
  have h10 := @run_callFunc_extern Tryd.prog 27 _ ReflectliteType.typeOf Tryd.func27 (by kernel_rfl) (by kernel_rfl) (by kernel_rfl) (by kernel_rfl)
  have h35 := @run_callFunc_extern Tryd.prog 67 _ (ReflectliteType.relation "AssignableTo" ReflectliteType.assignableTo) Tryd.func67 (by kernel_rfl) (by kernel_rfl) (by kernel_rfl) (by kernel_rfl)
  have h11 := @run_callFunc_extern Tryd.prog 28 _ (ReflectliteValue.method (ReflectliteValue.valueError "reflectlite.Value.Elem" 0) ReflectliteValue.elem) Tryd.func28 (by kernel_rfl) (by kernel_rfl) (by kernel_rfl) (by kernel_rfl)
  have h12 := @run_callFunc_extern Tryd.prog 29 _ ReflectliteValue.set Tryd.func29 (by kernel_rfl) (by kernel_rfl) (by kernel_rfl) (by kernel_rfl)
  have tO := as_typeOf65
  have mA := as_methodAssignableTo
  have a25 := as_assignable65
  have v25 := as_valueOf65
  have f6 := as_valueOf67
  have f7 := as_type67
  have mK := as_methodKind
  have mE := as_methodElem
  have mI := as_methodImplements
  have k27 := as_kind67
  have k25 := as_kind65
  have e27 := as_elem67
  have i25 := as_implements65
  have n8 := as_isNil67 ⟨w.heap.size, 0, none⟩ t ((w.alloc (.cells #[.pointer (some t)] 67)).alloc (.cells #[.pointer (some ⟨3, 67, none⟩), .pointer (some ⟨w.heap.size, 0, none⟩), .int .u64 150] 81)) (by simp)
  have hlt : 1 < w.heap.size := by
    rcases Nat.lt_or_ge 1 w.heap.size with h | h
    · exact h
    · simp [World.cell?, Array.getElem?_eq_none h] at hg
  have hg2 : ((w.alloc (.cells #[.pointer (some t)] 67)).alloc (.cells #[.pointer (some ⟨3, 67, none⟩), .pointer (some ⟨w.heap.size, 0, none⟩), .int .u64 150] 81)).cell? ⟨1, 0, none⟩ = some (.iface 92 (.agg #[.pointer (some ⟨3, 41, none⟩)])) := by
    rw [World.cell?_alloc_lt _ _ ⟨1, 0, none⟩ (by simp; omega), World.cell?_alloc_lt _ _ ⟨1, 0, none⟩ hlt]; exact hg
  have htl : t.block < w.heap.size := by
    rcases Nat.lt_or_ge t.block w.heap.size with h | h
    · exact h
    · simp [World.cell?, Array.getElem?_eq_none h] at ht0
  have el := as_elemV67 ⟨w.heap.size, 0, none⟩ t (((w.alloc (.cells #[.pointer (some t)] 67)).alloc (.cells #[.pointer (some ⟨3, 67, none⟩), .pointer (some ⟨w.heap.size, 0, none⟩), .int .u64 150] 81)).alloc (.cells #[.pointer (some ⟨3, 67, none⟩), .pointer (some ⟨w.heap.size, 0, none⟩), .int .u64 150] 81)) (by rw [World.cell?_alloc_lt _ _ ⟨w.heap.size, 0, none⟩ (by simp; omega)]; simp)
  have st := as_set65 t ⟨w.heap.size + 1 + 1 + 1, 0, none⟩ e old ((((w.alloc (.cells #[.pointer (some t)] 67)).alloc (.cells #[.pointer (some ⟨3, 67, none⟩), .pointer (some ⟨w.heap.size, 0, none⟩), .int .u64 150] 81)).alloc (.cells #[.pointer (some ⟨3, 67, none⟩), .pointer (some ⟨w.heap.size, 0, none⟩), .int .u64 150] 81)).alloc (.cells #[.int .i64 e] 65))
    (by rw [World.cell?_alloc_at _ _ _ _ (by simp)]; rfl)
    (by rw [World.cell?_alloc_lt _ _ t (by simp; omega), World.cell?_alloc_lt _ _ t (by simp; omega), World.cell?_alloc_lt _ _ t (by simp; omega), World.cell?_alloc_lt _ _ t htl]; exact ht0)
    (by rw [World.frozen?_alloc_old _ _ t (by simp; omega), World.frozen?_alloc_old _ _ t (by simp; omega), World.frozen?_alloc_old _ _ t (by simp; omega), World.frozen?_alloc_old _ _ t (Nat.ne_of_lt htl)]; exact hf0)
  go_enter Tryd.func22, Tryd.ntmps22
  go_wp2
  refine wp_loop_rounds 1 ?_
  rw [rounds_succ]
  go_wp2
  go_ret
  exact ⟨rfl, rfl⟩
end Go.Proofs.YtfonpcfcelahdaaDoor
