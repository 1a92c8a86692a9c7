import Derived.Test.YbulkdtjaFmtFacts
import Derived.LaidEql
import Derived.Stop.Asserts
import Derived.RowKitTokens
import Derived.Laws.StructEq
namespace Go.Proofs.YbulkdtjaFmt
open Go.RowKit Go.Extern.Stop Go.Stop Go.Extern

theorem Ybaf.isTypeOf (v : Value) (w : World) : (Extern.ReflectliteType.typeOf #[.iface 59 v]).run Ybaf.prog w = .ok (.iface 51 (.agg #[.pointer (some ⟨3, 59, none⟩)])) w := by kernel_rfl
theorem Ybaf.isTypeOfZ (v : Value) (w : World) : (Extern.ReflectliteType.typeOf #[.iface 26 v]).run Ybaf.prog w = .ok (.iface 51 (.agg #[.pointer (some ⟨3, 26, none⟩)])) w := by kernel_rfl
def Ybaf.cmp : Array Value → Sem Value := Extern.ReflectliteType.method fun t => do Go.Extern.Rtype.noPackHeld "Comparable" t; pure (.bool (← typeInfo t).comparable)
theorem Ybaf.isComparable (w : World) : (Ybaf.cmp #[.agg #[.pointer (some ⟨3, 59, none⟩)]]).run Ybaf.prog w = .ok (.bool true) w := by kernel_rfl
theorem Ybaf.isComparableZ (w : World) : (Ybaf.cmp #[.agg #[.pointer (some ⟨3, 26, none⟩)]]).run Ybaf.prog w = .ok (.bool true) w := by kernel_rfl
theorem Ybaf.isComp : (Ybaf.prog.info? 59).map (·.comparable) = some true := by kernel_rfl
theorem Ybaf.isSize : (Ybaf.prog.info? 61).map (·.size) = some 1 := by kernel_rfl
theorem Ybaf.noIsE (v : Value) (xT : TypeId) (w : World) : (Instr.typeAssert (.iface 59 v) xT 53 true).run Ybaf.prog w = .ok (.tuple #[.nilIface, .bool false]) w := run_typeAssert_lacksB Ybaf.underlying53 (by kernel_rfl) (by kernel_rfl) v xT w
theorem Ybaf.noUnwrapE (v : Value) (xT : TypeId) (w : World) : (Instr.typeAssert (.iface 59 v) xT 38 true).run Ybaf.prog w = .ok (.tuple #[.nilIface, .bool false]) w := run_typeAssert_lacksB Ybaf.underlying38 (by kernel_rfl) (by kernel_rfl) v xT w
theorem Ybaf.noUnwrapsE (v : Value) (xT : TypeId) (w : World) : (Instr.typeAssert (.iface 59 v) xT 56 true).run Ybaf.prog w = .ok (.tuple #[.nilIface, .bool false]) w := run_typeAssert_lacksB Ybaf.underlying56 (by kernel_rfl) (by kernel_rfl) v xT w
theorem Ybaf.noIsW (v : Value) (xT : TypeId) (w : World) : (Instr.typeAssert (.iface 49 v) xT 53 true).run Ybaf.prog w = .ok (.tuple #[.nilIface, .bool false]) w := run_typeAssert_lacksB Ybaf.underlying53 (by kernel_rfl) (by kernel_rfl) v xT w
theorem Ybaf.hasUnwrapW (v : Value) (xT : TypeId) (w : World) : (Instr.typeAssert (.iface 49 v) xT 38 true).run Ybaf.prog w = .ok (.tuple #[.iface 49 v, .bool true]) w := run_typeAssert_hasB Ybaf.underlying38 (by kernel_rfl) v xT w
theorem Ybaf.noIsZ (v : Value) (xT : TypeId) (w : World) : (Instr.typeAssert (.iface 26 v) xT 53 true).run Ybaf.prog w = .ok (.tuple #[.nilIface, .bool false]) w := run_typeAssert_lacksB Ybaf.underlying53 (by kernel_rfl) (by kernel_rfl) v xT w
theorem Ybaf.hasUnwrapZ (v : Value) (xT : TypeId) (w : World) : (Instr.typeAssert (.iface 26 v) xT 38 true).run Ybaf.prog w = .ok (.tuple #[.iface 26 v, .bool true]) w := run_typeAssert_hasB Ybaf.underlying38 (by kernel_rfl) v xT w

theorem Ybaf.methodUnwrapW (v : Value) (w : World) : (Go.method 202 49 v "Unwrap").run Ybaf.prog w = .ok (33, v) w := by kernel_rfl
theorem Ybaf.methodUnwrapZ (v : Value) (w : World) : (Go.method 202 26 v "Unwrap").run Ybaf.prog w = .ok (30, v) w := by kernel_rfl
theorem Ybaf.methodComparable (v : Value) (w : World) : (Go.method 202 51 v "Comparable").run Ybaf.prog w = .ok (37, v) w := by kernel_rfl

/-! ### '==' between two interface values that hold one and the same zzs6006aerr -/
theorem Ybaf.fields26 : (Ybaf.prog.fieldsOf 26).toList.map (fun f => (f.name, f.type, f.offset)) = [("code", 2, 0), ("wrapEOF", 4, 1)] := by kernel_rfl
theorem Ybaf.struct26 : Ybaf.prog.underlying 26 = some (.struct (Ybaf.prog.fieldsOf 26)) := by kernel_rfl
theorem Ybaf.held26 : Ybaf.prog.stoodInHeld 26 = false := by kernel_rfl
theorem Ybaf.comp26 : (Ybaf.prog.info? 26).map (·.comparable) = some true := by kernel_rfl
theorem run_part2 (w : World) (xs : Array Value) (o : Nat) (v : Value) (h : xs[o]? = some v) : (part 2 xs o).run Ybaf.prog w = .ok v w := by
  simp [part, Sem.run_bind, h]
theorem run_part4 (w : World) (xs : Array Value) (o : Nat) (v : Value) (h : xs[o]? = some v) : (part 4 xs o).run Ybaf.prog w = .ok v w := by
  simp [part, Sem.run_bind, h]
theorem run_zzs_eq (w : World) (d : Nat) (a : Int) (b : Bool) : (Op.equalIn (d + 2) 26 (.agg #[.int .i64 a, .bool b]) (.agg #[.int .i64 a, .bool b])).run Ybaf.prog w = .ok true w := by
  rw [run_equalIn_struct w (d + 1) 26 _ _ Ybaf.struct26 Ybaf.held26]
  have h := Ybaf.fields26
  match hf : (Ybaf.prog.fieldsOf 26).toList with
  | [f, g] =>
    rw [hf] at h
    simp at h
    obtain ⟨⟨h1, h2, h3⟩, h4, h5, h6⟩ := h
    simp [Op.eqFields, h1, h2, h3, h4, h5, h6, Sem.run_bind, run_part2 w _ 0 (.int .i64 a), run_part4 w _ 1 (.bool b), run_equalIn_int w d 2 .i64 .i64 _ _ Ybaf.underlying2, run_equalIn_bool' w d 4 _ _ Ybaf.underlying4]
  | [] => rw [hf] at h; simp at h
  | [_] => rw [hf] at h; simp at h
  | _ :: _ :: _ :: _ => rw [hf] at h; simp at h
theorem run_eql_zzs (w : World) (a : Int) (b : Bool) : (binOp .eql 24 (.iface 26 (.agg #[.int .i64 a, .bool b])) (.iface 26 (.agg #[.int .i64 a, .bool b]))).run Ybaf.prog w = .ok (.bool true) w := by
  obtain ⟨i, hi, hcmp⟩ := Option.map_eq_some_iff.1 Ybaf.comp26
  have h1 := run_zzs_eq w 9997 a b
  have h2 : (Op.equalIn (9998 + 2) 24 (.iface 26 (.agg #[.int .i64 a, .bool b])) (.iface 26 (.agg #[.int .i64 a, .bool b]))).run Ybaf.prog w = .ok true w := by
    rw [Op.equalIn]
    simp only [Sem.run_bind, run_underlying Ybaf.underlying24, Result.andThen_ok]
    simp [typeInfo, hi, hcmp]
    exact h1
  simp only [binOp]
  simp only [Op.equal, Op.maxDepth]
  simp [h2]

theorem keep_alloc {w : World} {o X : Obj} {k : Nat} (h : w.heap[k]? = some X) : (w.alloc o).heap[k]? = some X := by
  have hk : k < w.heap.size := by
    rcases Nat.lt_or_ge k w.heap.size with h' | h'
    · exact h'
    · rw [Array.getElem?_eq_none h'] at h; cases h
  rw [Below.heap_alloc _ _ _ hk]; exact h

set_option maxHeartbeats 400000 in
theorem unwrap_w (p : Nat) (x : Value) (w : World) (h1 : w.cell? ⟨p, 1, none⟩ = some x) :
    Calls Ybaf.prog 5 #[.iface 49 (.pointer (some ⟨p, 0, none⟩))] w fun e w' => e = .returned x ∧ w' = w := by
  have uW := Ybaf.hasUnwrapW
  have mU := Ybaf.methodUnwrapW
  go_enter Ybaf.func5, Ybaf.ntmps5
  go_wp2
  go_ret
  exact ⟨rfl, rfl⟩

set_option maxHeartbeats 800000 in
theorem is_w_same (p : Nat) (b : Addr) (w : World) (h1 : w.cell? ⟨p, 1, none⟩ = some (.iface 59 (.pointer (some b)))) :
    Calls Ybaf.prog 6 #[.iface 49 (.pointer (some ⟨p, 0, none⟩)), .iface 59 (.pointer (some b))] w fun e w' => e = .returned (.bool true) ∧ w' = w := by
  obtain ⟨i, hi, hcmp⟩ := Option.map_eq_some_iff.1 Ybaf.isComp
  obtain ⟨j, hj, hjs⟩ := Option.map_eq_some_iff.1 Ybaf.isSize
  have h9 := @run_callFunc_extern Ybaf.prog 9 _ Extern.ReflectliteType.typeOf Ybaf.func9 (by kernel_rfl) (by kernel_rfl) (by kernel_rfl) (by kernel_rfl)
  have h37 := @run_callFunc_extern Ybaf.prog 37 _ Ybaf.cmp Ybaf.func37 (by kernel_rfl) (by kernel_rfl) (by kernel_rfl) (by kernel_rfl)
  have tT := Ybaf.isTypeOf
  have cT := Ybaf.isComparable
  have tZ := Ybaf.isTypeOfZ
  have cZ := Ybaf.isComparableZ
  have mR := Ybaf.methodComparable
  have nE := Ybaf.noIsE
  have uE := Ybaf.noUnwrapE
  have vE := Ybaf.noUnwrapsE
  have nW := Ybaf.noIsW
  have uW := Ybaf.hasUnwrapW
  have mU := Ybaf.methodUnwrapW
  have nZ := Ybaf.noIsZ
  have uZ := Ybaf.hasUnwrapZ
  have mZ := Ybaf.methodUnwrapZ
  have heq := run_eql_iface_ptr_same (P := Ybaf.prog) w b Ybaf.underlying24 Ybaf.underlying59 hi hcmp hj
  have hty4959 := run_eql_iface_types (P := Ybaf.prog) 49 59 (.pointer (some ⟨p, 0, none⟩)) (.pointer (some b)) Ybaf.underlying24 (by decide)
  go_enter Ybaf.func6, Ybaf.ntmps6
  go_wp2
  refine wp_loop_rounds 2 ?_
  rw [rounds_succ]
  go_wp2
  rw [rounds_succ]
  go_wp2
  go_ret
  exact ⟨rfl, rfl⟩

set_option maxHeartbeats 800000 in
theorem is_w_other (p : Nat) (a b : Addr) (ca cb : Array Value) (ta tb : TypeId) (w : World) (h1 : w.cell? ⟨p, 1, none⟩ = some (.iface 59 (.pointer (some a)))) (hne : a ≠ b) (ha : w.heap[a.block]? = some (.cells ca ta (0, 0))) (hb : w.heap[b.block]? = some (.cells cb tb (0, 0))) :
    Calls Ybaf.prog 6 #[.iface 49 (.pointer (some ⟨p, 0, none⟩)), .iface 59 (.pointer (some b))] w fun e w' => e = .returned (.bool false) ∧ w' = w := by
  obtain ⟨i, hi, hcmp⟩ := Option.map_eq_some_iff.1 Ybaf.isComp
  obtain ⟨j, hj, hjs⟩ := Option.map_eq_some_iff.1 Ybaf.isSize
  have h9 := @run_callFunc_extern Ybaf.prog 9 _ Extern.ReflectliteType.typeOf Ybaf.func9 (by kernel_rfl) (by kernel_rfl) (by kernel_rfl) (by kernel_rfl)
  have h37 := @run_callFunc_extern Ybaf.prog 37 _ Ybaf.cmp Ybaf.func37 (by kernel_rfl) (by kernel_rfl) (by kernel_rfl) (by kernel_rfl)
  have tT := Ybaf.isTypeOf
  have cT := Ybaf.isComparable
  have tZ := Ybaf.isTypeOfZ
  have cZ := Ybaf.isComparableZ
  have mR := Ybaf.methodComparable
  have nE := Ybaf.noIsE
  have uE := Ybaf.noUnwrapE
  have vE := Ybaf.noUnwrapsE
  have nW := Ybaf.noIsW
  have uW := Ybaf.hasUnwrapW
  have mU := Ybaf.methodUnwrapW
  have nZ := Ybaf.noIsZ
  have uZ := Ybaf.hasUnwrapZ
  have mZ := Ybaf.methodUnwrapZ
  have heq := run_eql_iface_ptr_other (P := Ybaf.prog) w Ybaf.underlying24 Ybaf.underlying59 hi hcmp hj (by rw [hjs]; decide) hne ha hb
  have hty4959 := run_eql_iface_types (P := Ybaf.prog) 49 59 (.pointer (some ⟨p, 0, none⟩)) (.pointer (some b)) Ybaf.underlying24 (by decide)
  go_enter Ybaf.func6, Ybaf.ntmps6
  go_wp2
  refine wp_loop_rounds 2 ?_
  rw [rounds_succ]
  go_wp2
  rw [rounds_succ]
  go_wp2
  go_ret
  exact ⟨rfl, rfl⟩

set_option maxHeartbeats 800000 in
theorem is_w_nil (p : Nat) (b : Addr) (w : World) (h1 : w.cell? ⟨p, 1, none⟩ = some .nilIface) :
    Calls Ybaf.prog 6 #[.iface 49 (.pointer (some ⟨p, 0, none⟩)), .iface 59 (.pointer (some b))] w fun e w' => e = .returned (.bool false) ∧ w' = w := by
  obtain ⟨i, hi, hcmp⟩ := Option.map_eq_some_iff.1 Ybaf.isComp
  obtain ⟨j, hj, hjs⟩ := Option.map_eq_some_iff.1 Ybaf.isSize
  have h9 := @run_callFunc_extern Ybaf.prog 9 _ Extern.ReflectliteType.typeOf Ybaf.func9 (by kernel_rfl) (by kernel_rfl) (by kernel_rfl) (by kernel_rfl)
  have h37 := @run_callFunc_extern Ybaf.prog 37 _ Ybaf.cmp Ybaf.func37 (by kernel_rfl) (by kernel_rfl) (by kernel_rfl) (by kernel_rfl)
  have tT := Ybaf.isTypeOf
  have cT := Ybaf.isComparable
  have tZ := Ybaf.isTypeOfZ
  have cZ := Ybaf.isComparableZ
  have mR := Ybaf.methodComparable
  have nE := Ybaf.noIsE
  have uE := Ybaf.noUnwrapE
  have vE := Ybaf.noUnwrapsE
  have nW := Ybaf.noIsW
  have uW := Ybaf.hasUnwrapW
  have mU := Ybaf.methodUnwrapW
  have nZ := Ybaf.noIsZ
  have uZ := Ybaf.hasUnwrapZ
  have mZ := Ybaf.methodUnwrapZ
  have hty4959 := run_eql_iface_types (P := Ybaf.prog) 49 59 (.pointer (some ⟨p, 0, none⟩)) (.pointer (some b)) Ybaf.underlying24 (by decide)
  go_enter Ybaf.func6, Ybaf.ntmps6
  go_wp2
  refine wp_loop_rounds 1 ?_
  rw [rounds_succ]
  go_wp2
  go_ret
  exact ⟨rfl, rfl⟩

set_option maxHeartbeats 800000 in
theorem is_w_z_same (p : Nat) (code : Int) (z : Bool) (w : World) (h1 : w.cell? ⟨p, 1, none⟩ = some (.iface 26 (.agg #[.int .i64 code, .bool z]))) :
    Calls Ybaf.prog 6 #[.iface 49 (.pointer (some ⟨p, 0, none⟩)), .iface 26 (.agg #[.int .i64 code, .bool z])] w fun e w' => e = .returned (.bool true) ∧ w' = w := by
  obtain ⟨i, hi, hcmp⟩ := Option.map_eq_some_iff.1 Ybaf.isComp
  obtain ⟨j, hj, hjs⟩ := Option.map_eq_some_iff.1 Ybaf.isSize
  have h9 := @run_callFunc_extern Ybaf.prog 9 _ Extern.ReflectliteType.typeOf Ybaf.func9 (by kernel_rfl) (by kernel_rfl) (by kernel_rfl) (by kernel_rfl)
  have h37 := @run_callFunc_extern Ybaf.prog 37 _ Ybaf.cmp Ybaf.func37 (by kernel_rfl) (by kernel_rfl) (by kernel_rfl) (by kernel_rfl)
  have tT := Ybaf.isTypeOf
  have cT := Ybaf.isComparable
  have tZ := Ybaf.isTypeOfZ
  have cZ := Ybaf.isComparableZ
  have mR := Ybaf.methodComparable
  have nE := Ybaf.noIsE
  have uE := Ybaf.noUnwrapE
  have vE := Ybaf.noUnwrapsE
  have nW := Ybaf.noIsW
  have uW := Ybaf.hasUnwrapW
  have mU := Ybaf.methodUnwrapW
  have nZ := Ybaf.noIsZ
  have uZ := Ybaf.hasUnwrapZ
  have mZ := Ybaf.methodUnwrapZ
  have heq := run_eql_zzs w code z
  have hty4926 := run_eql_iface_types (P := Ybaf.prog) 49 26 (.pointer (some ⟨p, 0, none⟩)) (.agg #[.int .i64 code, .bool z]) Ybaf.underlying24 (by decide)
  go_enter Ybaf.func6, Ybaf.ntmps6
  go_wp2
  refine wp_loop_rounds 2 ?_
  rw [rounds_succ]
  go_wp2
  rw [rounds_succ]
  go_wp2
  go_ret
  exact ⟨rfl, rfl⟩

set_option maxHeartbeats 800000 in
theorem is_w_zf (p : Nat) (code : Int) (b : Addr) (w : World) (h1 : w.cell? ⟨p, 1, none⟩ = some (.iface 26 (.agg #[.int .i64 code, .bool false]))) :
    Calls Ybaf.prog 6 #[.iface 49 (.pointer (some ⟨p, 0, none⟩)), .iface 59 (.pointer (some b))] w fun e w' => e = .returned (.bool false) ∧ Below w.heap.size w w' := by
  obtain ⟨i, hi, hcmp⟩ := Option.map_eq_some_iff.1 Ybaf.isComp
  obtain ⟨j, hj, hjs⟩ := Option.map_eq_some_iff.1 Ybaf.isSize
  have h9 := @run_callFunc_extern Ybaf.prog 9 _ Extern.ReflectliteType.typeOf Ybaf.func9 (by kernel_rfl) (by kernel_rfl) (by kernel_rfl) (by kernel_rfl)
  have h37 := @run_callFunc_extern Ybaf.prog 37 _ Ybaf.cmp Ybaf.func37 (by kernel_rfl) (by kernel_rfl) (by kernel_rfl) (by kernel_rfl)
  have tT := Ybaf.isTypeOf
  have cT := Ybaf.isComparable
  have tZ := Ybaf.isTypeOfZ
  have cZ := Ybaf.isComparableZ
  have mR := Ybaf.methodComparable
  have nE := Ybaf.noIsE
  have uE := Ybaf.noUnwrapE
  have vE := Ybaf.noUnwrapsE
  have nW := Ybaf.noIsW
  have uW := Ybaf.hasUnwrapW
  have mU := Ybaf.methodUnwrapW
  have nZ := Ybaf.noIsZ
  have uZ := Ybaf.hasUnwrapZ
  have mZ := Ybaf.methodUnwrapZ
  have hty4959 := run_eql_iface_types (P := Ybaf.prog) 49 59 (.pointer (some ⟨p, 0, none⟩)) (.pointer (some b)) Ybaf.underlying24 (by decide)
  have hty2659 := run_eql_iface_types (P := Ybaf.prog) 26 59 (.agg #[.int .i64 code, .bool false]) (.pointer (some b)) Ybaf.underlying24 (by decide)
  go_enter Ybaf.func6, Ybaf.ntmps6
  go_wp2
  refine wp_loop_rounds 2 ?_
  rw [rounds_succ]
  go_wp2
  rw [rounds_succ]
  go_wp2
  go_ret
  exact ⟨rfl, (Below.refl _ _).alloc (Nat.le_refl _) _⟩

set_option maxHeartbeats 800000 in
theorem is_w_zt_same (p : Nat) (code : Int) (b : Addr) (w : World) (h1 : w.cell? ⟨p, 1, none⟩ = some (.iface 26 (.agg #[.int .i64 code, .bool true]))) (h0 : w.cell? ⟨0, 0, none⟩ = some (.iface 59 (.pointer (some b)))) :
    Calls Ybaf.prog 6 #[.iface 49 (.pointer (some ⟨p, 0, none⟩)), .iface 59 (.pointer (some b))] w fun e w' => e = .returned (.bool true) ∧ Below w.heap.size w w' := by
  obtain ⟨i, hi, hcmp⟩ := Option.map_eq_some_iff.1 Ybaf.isComp
  obtain ⟨j, hj, hjs⟩ := Option.map_eq_some_iff.1 Ybaf.isSize
  have h9 := @run_callFunc_extern Ybaf.prog 9 _ Extern.ReflectliteType.typeOf Ybaf.func9 (by kernel_rfl) (by kernel_rfl) (by kernel_rfl) (by kernel_rfl)
  have h37 := @run_callFunc_extern Ybaf.prog 37 _ Ybaf.cmp Ybaf.func37 (by kernel_rfl) (by kernel_rfl) (by kernel_rfl) (by kernel_rfl)
  have tT := Ybaf.isTypeOf
  have cT := Ybaf.isComparable
  have tZ := Ybaf.isTypeOfZ
  have cZ := Ybaf.isComparableZ
  have mR := Ybaf.methodComparable
  have nE := Ybaf.noIsE
  have uE := Ybaf.noUnwrapE
  have vE := Ybaf.noUnwrapsE
  have nW := Ybaf.noIsW
  have uW := Ybaf.hasUnwrapW
  have mU := Ybaf.methodUnwrapW
  have nZ := Ybaf.noIsZ
  have uZ := Ybaf.hasUnwrapZ
  have mZ := Ybaf.methodUnwrapZ
  have heq := fun w => run_eql_iface_ptr_same (P := Ybaf.prog) w b Ybaf.underlying24 Ybaf.underlying59 hi hcmp hj
  have hlt : 0 < w.heap.size := World.block_lt_of_cell? _ _ h0
  have hty4959 := run_eql_iface_types (P := Ybaf.prog) 49 59 (.pointer (some ⟨p, 0, none⟩)) (.pointer (some b)) Ybaf.underlying24 (by decide)
  have hty2659 := run_eql_iface_types (P := Ybaf.prog) 26 59 (.agg #[.int .i64 code, .bool true]) (.pointer (some b)) Ybaf.underlying24 (by decide)
  go_enter Ybaf.func6, Ybaf.ntmps6
  go_wp2
  refine wp_loop_rounds 3 ?_
  rw [rounds_succ]
  go_wp2
  rw [rounds_succ]
  go_wp2
  rw [rounds_succ]
  go_wp2
  go_ret
  exact ⟨rfl, (Below.refl _ _).alloc (Nat.le_refl _) _⟩

set_option maxHeartbeats 800000 in
theorem is_w_zt_other (p : Nat) (code : Int) (a b : Addr) (ca cb : Array Value) (ta tb : TypeId) (w : World) (h1 : w.cell? ⟨p, 1, none⟩ = some (.iface 26 (.agg #[.int .i64 code, .bool true]))) (h0 : w.cell? ⟨0, 0, none⟩ = some (.iface 59 (.pointer (some a)))) (hne : a ≠ b) (ha : w.heap[a.block]? = some (.cells ca ta (0, 0))) (hb : w.heap[b.block]? = some (.cells cb tb (0, 0))) :
    Calls Ybaf.prog 6 #[.iface 49 (.pointer (some ⟨p, 0, none⟩)), .iface 59 (.pointer (some b))] w fun e w' => e = .returned (.bool false) ∧ Below w.heap.size w w' := by
  obtain ⟨i, hi, hcmp⟩ := Option.map_eq_some_iff.1 Ybaf.isComp
  obtain ⟨j, hj, hjs⟩ := Option.map_eq_some_iff.1 Ybaf.isSize
  have h9 := @run_callFunc_extern Ybaf.prog 9 _ Extern.ReflectliteType.typeOf Ybaf.func9 (by kernel_rfl) (by kernel_rfl) (by kernel_rfl) (by kernel_rfl)
  have h37 := @run_callFunc_extern Ybaf.prog 37 _ Ybaf.cmp Ybaf.func37 (by kernel_rfl) (by kernel_rfl) (by kernel_rfl) (by kernel_rfl)
  have tT := Ybaf.isTypeOf
  have cT := Ybaf.isComparable
  have tZ := Ybaf.isTypeOfZ
  have cZ := Ybaf.isComparableZ
  have mR := Ybaf.methodComparable
  have nE := Ybaf.noIsE
  have uE := Ybaf.noUnwrapE
  have vE := Ybaf.noUnwrapsE
  have nW := Ybaf.noIsW
  have uW := Ybaf.hasUnwrapW
  have mU := Ybaf.methodUnwrapW
  have nZ := Ybaf.noIsZ
  have uZ := Ybaf.hasUnwrapZ
  have mZ := Ybaf.methodUnwrapZ
  have hlt : 0 < w.heap.size := World.block_lt_of_cell? _ _ h0
  have heq := fun c : Array Value => run_eql_iface_ptr_other (P := Ybaf.prog) (w.alloc (.cells c 26)) Ybaf.underlying24 Ybaf.underlying59 hi hcmp hj (by rw [hjs]; decide) hne (keep_alloc ha) (keep_alloc hb)
  have hty4959 := run_eql_iface_types (P := Ybaf.prog) 49 59 (.pointer (some ⟨p, 0, none⟩)) (.pointer (some b)) Ybaf.underlying24 (by decide)
  have hty2659 := run_eql_iface_types (P := Ybaf.prog) 26 59 (.agg #[.int .i64 code, .bool true]) (.pointer (some b)) Ybaf.underlying24 (by decide)
  go_enter Ybaf.func6, Ybaf.ntmps6
  go_wp2
  refine wp_loop_rounds 3 ?_
  rw [rounds_succ]
  go_wp2
  rw [rounds_succ]
  go_wp2
  rw [rounds_succ]
  go_wp2
  go_ret
  exact ⟨rfl, (Below.refl _ _).alloc (Nat.le_refl _) _⟩

end Go.Proofs.YbulkdtjaFmt
