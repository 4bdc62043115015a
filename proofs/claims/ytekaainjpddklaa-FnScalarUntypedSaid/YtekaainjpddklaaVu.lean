/-
  The methods of the package's value (valueUnstructured): what each says of a value that stands for a tree.
-/
import Derived.Test.YtekaainjpddklaaPlain
namespace Go.Proofs.Ytekaainjpddklaa
open Go.RowKit
attribute [local go_sem] run_store_float

theorem run_assert_ok {P : Program} {u : TypeId} {d : TypeDesc} (hu : P.underlying u = some d) (hd : ∀ ms, d ≠ .interface ms) {z : Value} (hz : ∀ w, (zeroValue u).run P w = .ok z w) (t s : TypeId) (v : Value) (w : World) :
    (Instr.typeAssert (.iface t v) s u true).run P w = if t = u then .ok (.tuple #[v, .bool true]) w else .ok (.tuple #[z, .bool false]) w := by
  by_cases h : t = u
  · cases d <;> first | exact absurd rfl (hd _) | simp [Instr.typeAssert, run_underlying hu, h]
  · cases d <;> first | exact absurd rfl (hd _) | simp [Instr.typeAssert, run_underlying hu, h, hz]
theorem run_assert_nil {P : Program} {u : TypeId} {d : TypeDesc} (hu : P.underlying u = some d) (hd : ∀ ms, d ≠ .interface ms) {z : Value} (hz : ∀ w, (zeroValue u).run P w = .ok z w) (s : TypeId) (w : World) :
    (Instr.typeAssert .nilIface s u true).run P w = .ok (.tuple #[z, .bool false]) w := by
  cases d <;> first | exact absurd rfl (hd _) | simp [Instr.typeAssert, run_underlying hu, hz]
theorem run_assert_hit {P : Program} {u : TypeId} {d : TypeDesc} (hu : P.underlying u = some d) (hd : ∀ ms, d ≠ .interface ms) (s : TypeId) (v : Value) (w : World) :
    (Instr.typeAssert (.iface u v) s u false).run P w = .ok v w := by
  cases d <;> first | exact absurd rfl (hd _) | simp [Instr.typeAssert, run_underlying hu]
theorem ta_ok0 (t s : TypeId) (v : Value) (w : World) : (Instr.typeAssert (.iface t v) s 126 true).run Try.prog w = if t = 126 then .ok (.tuple #[v, .bool true]) w else .ok (.tuple #[.map none, .bool false]) w := run_assert_ok Try.underlying126 (by intro ms; simp) (fun _ => by kernel_rfl) t s v w
theorem ta_nil0 (s : TypeId) (w : World) : (Instr.typeAssert .nilIface s 126 true).run Try.prog w = .ok (.tuple #[.map none, .bool false]) w := run_assert_nil Try.underlying126 (by intro ms; simp) (fun _ => by kernel_rfl) s w
theorem ta_hit0 (s : TypeId) (v : Value) (w : World) : (Instr.typeAssert (.iface 126 v) s 126 false).run Try.prog w = .ok v w := run_assert_hit Try.underlying126 (by intro ms; simp) s v w
theorem ta_ok1 (t s : TypeId) (v : Value) (w : World) : (Instr.typeAssert (.iface t v) s 184 true).run Try.prog w = if t = 184 then .ok (.tuple #[v, .bool true]) w else .ok (.tuple #[.slice none 0 0, .bool false]) w := run_assert_ok Try.underlying184 (by intro ms; simp) (fun _ => by kernel_rfl) t s v w
theorem ta_nil1 (s : TypeId) (w : World) : (Instr.typeAssert .nilIface s 184 true).run Try.prog w = .ok (.tuple #[.slice none 0 0, .bool false]) w := run_assert_nil Try.underlying184 (by intro ms; simp) (fun _ => by kernel_rfl) s w
theorem ta_hit1 (s : TypeId) (v : Value) (w : World) : (Instr.typeAssert (.iface 184 v) s 184 false).run Try.prog w = .ok v w := run_assert_hit Try.underlying184 (by intro ms; simp) s v w
theorem ta_ok2 (t s : TypeId) (v : Value) (w : World) : (Instr.typeAssert (.iface t v) s 22 true).run Try.prog w = if t = 22 then .ok (.tuple #[v, .bool true]) w else .ok (.tuple #[.float .f64 0, .bool false]) w := run_assert_ok Try.underlying22 (by intro ms; simp) (fun _ => by kernel_rfl) t s v w
theorem ta_nil2 (s : TypeId) (w : World) : (Instr.typeAssert .nilIface s 22 true).run Try.prog w = .ok (.tuple #[.float .f64 0, .bool false]) w := run_assert_nil Try.underlying22 (by intro ms; simp) (fun _ => by kernel_rfl) s w
theorem ta_hit2 (s : TypeId) (v : Value) (w : World) : (Instr.typeAssert (.iface 22 v) s 22 false).run Try.prog w = .ok v w := run_assert_hit Try.underlying22 (by intro ms; simp) s v w
theorem ta_ok3 (t s : TypeId) (v : Value) (w : World) : (Instr.typeAssert (.iface t v) s 267 true).run Try.prog w = if t = 267 then .ok (.tuple #[v, .bool true]) w else .ok (.tuple #[.float .f32 0, .bool false]) w := run_assert_ok Try.underlying267 (by intro ms; simp) (fun _ => by kernel_rfl) t s v w
theorem ta_nil3 (s : TypeId) (w : World) : (Instr.typeAssert .nilIface s 267 true).run Try.prog w = .ok (.tuple #[.float .f32 0, .bool false]) w := run_assert_nil Try.underlying267 (by intro ms; simp) (fun _ => by kernel_rfl) s w
theorem ta_hit3 (s : TypeId) (v : Value) (w : World) : (Instr.typeAssert (.iface 267 v) s 267 false).run Try.prog w = .ok v w := run_assert_hit Try.underlying267 (by intro ms; simp) s v w
theorem ta_ok4 (t s : TypeId) (v : Value) (w : World) : (Instr.typeAssert (.iface t v) s 3 true).run Try.prog w = if t = 3 then .ok (.tuple #[v, .bool true]) w else .ok (.tuple #[.int .i64 0, .bool false]) w := run_assert_ok Try.underlying3 (by intro ms; simp) (fun _ => by kernel_rfl) t s v w
theorem ta_nil4 (s : TypeId) (w : World) : (Instr.typeAssert .nilIface s 3 true).run Try.prog w = .ok (.tuple #[.int .i64 0, .bool false]) w := run_assert_nil Try.underlying3 (by intro ms; simp) (fun _ => by kernel_rfl) s w
theorem ta_hit4 (s : TypeId) (v : Value) (w : World) : (Instr.typeAssert (.iface 3 v) s 3 false).run Try.prog w = .ok v w := run_assert_hit Try.underlying3 (by intro ms; simp) s v w
theorem ta_ok5 (t s : TypeId) (v : Value) (w : World) : (Instr.typeAssert (.iface t v) s 269 true).run Try.prog w = if t = 269 then .ok (.tuple #[v, .bool true]) w else .ok (.tuple #[.int .i8 0, .bool false]) w := run_assert_ok Try.underlying269 (by intro ms; simp) (fun _ => by kernel_rfl) t s v w
theorem ta_nil5 (s : TypeId) (w : World) : (Instr.typeAssert .nilIface s 269 true).run Try.prog w = .ok (.tuple #[.int .i8 0, .bool false]) w := run_assert_nil Try.underlying269 (by intro ms; simp) (fun _ => by kernel_rfl) s w
theorem ta_hit5 (s : TypeId) (v : Value) (w : World) : (Instr.typeAssert (.iface 269 v) s 269 false).run Try.prog w = .ok v w := run_assert_hit Try.underlying269 (by intro ms; simp) s v w
theorem ta_ok6 (t s : TypeId) (v : Value) (w : World) : (Instr.typeAssert (.iface t v) s 271 true).run Try.prog w = if t = 271 then .ok (.tuple #[v, .bool true]) w else .ok (.tuple #[.int .i16 0, .bool false]) w := run_assert_ok Try.underlying271 (by intro ms; simp) (fun _ => by kernel_rfl) t s v w
theorem ta_nil6 (s : TypeId) (w : World) : (Instr.typeAssert .nilIface s 271 true).run Try.prog w = .ok (.tuple #[.int .i16 0, .bool false]) w := run_assert_nil Try.underlying271 (by intro ms; simp) (fun _ => by kernel_rfl) s w
theorem ta_hit6 (s : TypeId) (v : Value) (w : World) : (Instr.typeAssert (.iface 271 v) s 271 false).run Try.prog w = .ok v w := run_assert_hit Try.underlying271 (by intro ms; simp) s v w
theorem ta_ok7 (t s : TypeId) (v : Value) (w : World) : (Instr.typeAssert (.iface t v) s 21 true).run Try.prog w = if t = 21 then .ok (.tuple #[v, .bool true]) w else .ok (.tuple #[.int .i32 0, .bool false]) w := run_assert_ok Try.underlying21 (by intro ms; simp) (fun _ => by kernel_rfl) t s v w
theorem ta_nil7 (s : TypeId) (w : World) : (Instr.typeAssert .nilIface s 21 true).run Try.prog w = .ok (.tuple #[.int .i32 0, .bool false]) w := run_assert_nil Try.underlying21 (by intro ms; simp) (fun _ => by kernel_rfl) s w
theorem ta_hit7 (s : TypeId) (v : Value) (w : World) : (Instr.typeAssert (.iface 21 v) s 21 false).run Try.prog w = .ok v w := run_assert_hit Try.underlying21 (by intro ms; simp) s v w
theorem ta_ok8 (t s : TypeId) (v : Value) (w : World) : (Instr.typeAssert (.iface t v) s 2 true).run Try.prog w = if t = 2 then .ok (.tuple #[v, .bool true]) w else .ok (.tuple #[.int .i64 0, .bool false]) w := run_assert_ok Try.underlying2 (by intro ms; simp) (fun _ => by kernel_rfl) t s v w
theorem ta_nil8 (s : TypeId) (w : World) : (Instr.typeAssert .nilIface s 2 true).run Try.prog w = .ok (.tuple #[.int .i64 0, .bool false]) w := run_assert_nil Try.underlying2 (by intro ms; simp) (fun _ => by kernel_rfl) s w
theorem ta_hit8 (s : TypeId) (v : Value) (w : World) : (Instr.typeAssert (.iface 2 v) s 2 false).run Try.prog w = .ok v w := run_assert_hit Try.underlying2 (by intro ms; simp) s v w
theorem ta_ok9 (t s : TypeId) (v : Value) (w : World) : (Instr.typeAssert (.iface t v) s 274 true).run Try.prog w = if t = 274 then .ok (.tuple #[v, .bool true]) w else .ok (.tuple #[.int .u64 0, .bool false]) w := run_assert_ok Try.underlying274 (by intro ms; simp) (fun _ => by kernel_rfl) t s v w
theorem ta_nil9 (s : TypeId) (w : World) : (Instr.typeAssert .nilIface s 274 true).run Try.prog w = .ok (.tuple #[.int .u64 0, .bool false]) w := run_assert_nil Try.underlying274 (by intro ms; simp) (fun _ => by kernel_rfl) s w
theorem ta_hit9 (s : TypeId) (v : Value) (w : World) : (Instr.typeAssert (.iface 274 v) s 274 false).run Try.prog w = .ok v w := run_assert_hit Try.underlying274 (by intro ms; simp) s v w
theorem ta_ok10 (t s : TypeId) (v : Value) (w : World) : (Instr.typeAssert (.iface t v) s 5 true).run Try.prog w = if t = 5 then .ok (.tuple #[v, .bool true]) w else .ok (.tuple #[.int .u8 0, .bool false]) w := run_assert_ok Try.underlying5 (by intro ms; simp) (fun _ => by kernel_rfl) t s v w
theorem ta_nil10 (s : TypeId) (w : World) : (Instr.typeAssert .nilIface s 5 true).run Try.prog w = .ok (.tuple #[.int .u8 0, .bool false]) w := run_assert_nil Try.underlying5 (by intro ms; simp) (fun _ => by kernel_rfl) s w
theorem ta_hit10 (s : TypeId) (v : Value) (w : World) : (Instr.typeAssert (.iface 5 v) s 5 false).run Try.prog w = .ok v w := run_assert_hit Try.underlying5 (by intro ms; simp) s v w
theorem ta_ok11 (t s : TypeId) (v : Value) (w : World) : (Instr.typeAssert (.iface t v) s 277 true).run Try.prog w = if t = 277 then .ok (.tuple #[v, .bool true]) w else .ok (.tuple #[.int .u16 0, .bool false]) w := run_assert_ok Try.underlying277 (by intro ms; simp) (fun _ => by kernel_rfl) t s v w
theorem ta_nil11 (s : TypeId) (w : World) : (Instr.typeAssert .nilIface s 277 true).run Try.prog w = .ok (.tuple #[.int .u16 0, .bool false]) w := run_assert_nil Try.underlying277 (by intro ms; simp) (fun _ => by kernel_rfl) s w
theorem ta_hit11 (s : TypeId) (v : Value) (w : World) : (Instr.typeAssert (.iface 277 v) s 277 false).run Try.prog w = .ok v w := run_assert_hit Try.underlying277 (by intro ms; simp) s v w
theorem ta_ok12 (t s : TypeId) (v : Value) (w : World) : (Instr.typeAssert (.iface t v) s 243 true).run Try.prog w = if t = 243 then .ok (.tuple #[v, .bool true]) w else .ok (.tuple #[.int .u32 0, .bool false]) w := run_assert_ok Try.underlying243 (by intro ms; simp) (fun _ => by kernel_rfl) t s v w
theorem ta_nil12 (s : TypeId) (w : World) : (Instr.typeAssert .nilIface s 243 true).run Try.prog w = .ok (.tuple #[.int .u32 0, .bool false]) w := run_assert_nil Try.underlying243 (by intro ms; simp) (fun _ => by kernel_rfl) s w
theorem ta_hit12 (s : TypeId) (v : Value) (w : World) : (Instr.typeAssert (.iface 243 v) s 243 false).run Try.prog w = .ok v w := run_assert_hit Try.underlying243 (by intro ms; simp) s v w
theorem ta_ok13 (t s : TypeId) (v : Value) (w : World) : (Instr.typeAssert (.iface t v) s 9 true).run Try.prog w = if t = 9 then .ok (.tuple #[v, .bool true]) w else .ok (.tuple #[.string ⟨#[]⟩, .bool false]) w := run_assert_ok Try.underlying9 (by intro ms; simp) (fun _ => by kernel_rfl) t s v w
theorem ta_nil13 (s : TypeId) (w : World) : (Instr.typeAssert .nilIface s 9 true).run Try.prog w = .ok (.tuple #[.string ⟨#[]⟩, .bool false]) w := run_assert_nil Try.underlying9 (by intro ms; simp) (fun _ => by kernel_rfl) s w
theorem ta_hit13 (s : TypeId) (v : Value) (w : World) : (Instr.typeAssert (.iface 9 v) s 9 false).run Try.prog w = .ok v w := run_assert_hit Try.underlying9 (by intro ms; simp) s v w
theorem ta_ok14 (t s : TypeId) (v : Value) (w : World) : (Instr.typeAssert (.iface t v) s 4 true).run Try.prog w = if t = 4 then .ok (.tuple #[v, .bool true]) w else .ok (.tuple #[.bool false, .bool false]) w := run_assert_ok Try.underlying4 (by intro ms; simp) (fun _ => by kernel_rfl) t s v w
theorem ta_nil14 (s : TypeId) (w : World) : (Instr.typeAssert .nilIface s 4 true).run Try.prog w = .ok (.tuple #[.bool false, .bool false]) w := run_assert_nil Try.underlying4 (by intro ms; simp) (fun _ => by kernel_rfl) s w
theorem ta_hit14 (s : TypeId) (v : Value) (w : World) : (Instr.typeAssert (.iface 4 v) s 4 false).run Try.prog w = .ok v w := run_assert_hit Try.underlying4 (by intro ms; simp) s v w
attribute [local go_sem] ta_ok0 ta_nil0 ta_hit0 ta_ok1 ta_nil1 ta_hit1 ta_ok2 ta_nil2 ta_hit2 ta_ok3 ta_nil3 ta_hit3 ta_ok4 ta_nil4 ta_hit4 ta_ok5 ta_nil5 ta_hit5 ta_ok6 ta_nil6 ta_hit6 ta_ok7 ta_nil7 ta_hit7 ta_ok8 ta_nil8 ta_hit8 ta_ok9 ta_nil9 ta_hit9 ta_ok10 ta_nil10 ta_hit10 ta_ok11 ta_nil11 ta_hit11 ta_ok12 ta_nil12 ta_hit12 ta_ok13 ta_nil13 ta_hit13 ta_ok14 ta_nil14 ta_hit14
def T.isMap : T → Bool | .map _ => true | _ => false
def T.isList : T → Bool | .list _ => true | _ => false
def T.isBool : T → Bool | .bool _ => true | _ => false
def T.isInt : T → Bool | .int _ => true | _ => false
def T.isFlt : T → Bool | .flt _ => true | _ => false
def T.isStr : T → Bool | .str _ => true | _ => false
def T.isNull : T → Bool | .null => true | _ => false

theorem meth_IsMap (n : Nat) (a : Addr) (w : World) : (method (n + 1) 182 (.pointer (some a)) "IsMap").run Try.prog w = (Sem.load .plain a fun v => .pure (177, .agg #[v])).run Try.prog w := by kernel_rfl
theorem meth_IsList (n : Nat) (a : Addr) (w : World) : (method (n + 1) 182 (.pointer (some a)) "IsList").run Try.prog w = (Sem.load .plain a fun v => .pure (176, .agg #[v])).run Try.prog w := by kernel_rfl
theorem meth_IsBool (n : Nat) (a : Addr) (w : World) : (method (n + 1) 182 (.pointer (some a)) "IsBool").run Try.prog w = (Sem.load .plain a fun v => .pure (173, .agg #[v])).run Try.prog w := by kernel_rfl
theorem meth_IsInt (n : Nat) (a : Addr) (w : World) : (method (n + 1) 182 (.pointer (some a)) "IsInt").run Try.prog w = (Sem.load .plain a fun v => .pure (175, .agg #[v])).run Try.prog w := by kernel_rfl
theorem meth_IsFloat (n : Nat) (a : Addr) (w : World) : (method (n + 1) 182 (.pointer (some a)) "IsFloat").run Try.prog w = (Sem.load .plain a fun v => .pure (174, .agg #[v])).run Try.prog w := by kernel_rfl
theorem meth_IsString (n : Nat) (a : Addr) (w : World) : (method (n + 1) 182 (.pointer (some a)) "IsString").run Try.prog w = (Sem.load .plain a fun v => .pure (179, .agg #[v])).run Try.prog w := by kernel_rfl
theorem meth_IsNull (n : Nat) (a : Addr) (w : World) : (method (n + 1) 182 (.pointer (some a)) "IsNull").run Try.prog w = (Sem.load .plain a fun v => .pure (178, .agg #[v])).run Try.prog w := by kernel_rfl
theorem meth_AsMapUsing (n : Nat) (a : Addr) (w : World) : (method (n + 1) 182 (.pointer (some a)) "AsMapUsing").run Try.prog w = (Sem.load .plain a fun v => .pure (171, .agg #[v])).run Try.prog w := by kernel_rfl
theorem meth_AsListUsing (n : Nat) (a : Addr) (w : World) : (method (n + 1) 182 (.pointer (some a)) "AsListUsing").run Try.prog w = (Sem.load .plain a fun v => .pure (169, .agg #[v])).run Try.prog w := by kernel_rfl
theorem meth_AsBool (n : Nat) (a : Addr) (w : World) : (method (n + 1) 182 (.pointer (some a)) "AsBool").run Try.prog w = (Sem.load .plain a fun v => .pure (165, .agg #[v])).run Try.prog w := by kernel_rfl
theorem meth_AsInt (n : Nat) (a : Addr) (w : World) : (method (n + 1) 182 (.pointer (some a)) "AsInt").run Try.prog w = (Sem.load .plain a fun v => .pure (167, .agg #[v])).run Try.prog w := by kernel_rfl
theorem meth_AsFloat (n : Nat) (a : Addr) (w : World) : (method (n + 1) 182 (.pointer (some a)) "AsFloat").run Try.prog w = (Sem.load .plain a fun v => .pure (166, .agg #[v])).run Try.prog w := by kernel_rfl
theorem meth_AsString (n : Nat) (a : Addr) (w : World) : (method (n + 1) 182 (.pointer (some a)) "AsString").run Try.prog w = (Sem.load .plain a fun v => .pure (172, .agg #[v])).run Try.prog w := by kernel_rfl
theorem meth_Unstructured (n : Nat) (a : Addr) (w : World) : (method (n + 1) 182 (.pointer (some a)) "Unstructured").run Try.prog w = (Sem.load .plain a fun v => .pure (180, .agg #[v])).run Try.prog w := by kernel_rfl

set_option maxRecDepth 100000 in
theorem IsMap_calls {F : Nat → Prop} {W : World} {t : T} {u : Value} (h : AnyAt F W t u) (w : World) :
    Calls Try.prog 177 #[.agg #[u]] w fun e w' => e = .returned (.bool t.isMap) ∧ w.alloc (.cells #[u] 217) = w' := by
  cases h
  all_goals
    go_enter Try.func177, Try.ntmps177
    go_wp2
    go_ret
    exact ⟨rfl, rfl⟩
set_option maxRecDepth 100000 in
theorem IsList_calls {F : Nat → Prop} {W : World} {t : T} {u : Value} (h : AnyAt F W t u) (w : World) :
    Calls Try.prog 176 #[.agg #[u]] w fun e w' => e = .returned (.bool t.isList) ∧ w.alloc (.cells #[u] 217) = w' := by
  cases h
  all_goals
    go_enter Try.func176, Try.ntmps176
    go_wp2
    go_ret
    exact ⟨rfl, rfl⟩
set_option maxRecDepth 100000 in
theorem IsBool_calls {F : Nat → Prop} {W : World} {t : T} {u : Value} (h : AnyAt F W t u) (w : World) :
    Calls Try.prog 173 #[.agg #[u]] w fun e w' => e = .returned (.bool t.isBool) ∧ w.alloc (.cells #[u] 217) = w' := by
  cases h
  all_goals
    go_enter Try.func173, Try.ntmps173
    go_wp2
    go_ret
    exact ⟨rfl, rfl⟩
set_option maxRecDepth 100000 in
theorem IsInt_calls {F : Nat → Prop} {W : World} {t : T} {u : Value} (h : AnyAt F W t u) (w : World) :
    Calls Try.prog 175 #[.agg #[u]] w fun e w' => e = .returned (.bool t.isInt) ∧ w.alloc (.cells #[u] 217) = w' := by
  cases h
  all_goals
    go_enter Try.func175, Try.ntmps175
    go_wp2
    go_ret
    exact ⟨rfl, rfl⟩
set_option maxRecDepth 100000 in
theorem IsFloat_calls {F : Nat → Prop} {W : World} {t : T} {u : Value} (h : AnyAt F W t u) (w : World) :
    Calls Try.prog 174 #[.agg #[u]] w fun e w' => e = .returned (.bool t.isFlt) ∧ w.alloc (.cells #[u] 217) = w' := by
  cases h
  all_goals
    go_enter Try.func174, Try.ntmps174
    go_wp2
    go_ret
    exact ⟨rfl, rfl⟩
set_option maxRecDepth 100000 in
theorem IsString_calls {F : Nat → Prop} {W : World} {t : T} {u : Value} (h : AnyAt F W t u) (w : World) :
    Calls Try.prog 179 #[.agg #[u]] w fun e w' => e = .returned (.bool t.isStr) ∧ w.alloc (.cells #[u] 217) = w' := by
  cases h
  all_goals
    go_enter Try.func179, Try.ntmps179
    go_wp2
    go_ret
    exact ⟨rfl, rfl⟩
set_option maxRecDepth 100000 in
theorem IsNull_calls {F : Nat → Prop} {W : World} {t : T} {u : Value} (h : AnyAt F W t u) (w : World) :
    Calls Try.prog 178 #[.agg #[u]] w fun e w' => e = .returned (.bool t.isNull) ∧ w.alloc (.cells #[u] 217) = w' := by
  cases h
  all_goals
    go_enter Try.func178, Try.ntmps178
    go_wp2
    go_ret
    exact ⟨rfl, rfl⟩
set_option maxRecDepth 100000 in
theorem AsBool_calls (b : Bool) (w : World) :
    Calls Try.prog 165 #[.agg #[.iface 4 (.bool b)]] w fun e w' => e = .returned (.bool b) ∧ w.alloc (.cells #[.iface 4 (.bool b)] 217) = w' := by
  go_enter Try.func165, Try.ntmps165
  go_wp2
  go_ret
  exact ⟨rfl, rfl⟩
set_option maxRecDepth 100000 in
theorem AsString_calls (s : ByteArray) (w : World) :
    Calls Try.prog 172 #[.agg #[.iface 9 (.string s)]] w fun e w' => e = .returned (.string s) ∧ w.alloc (.cells #[.iface 9 (.string s)] 217) = w' := by
  go_enter Try.func172, Try.ntmps172
  go_wp2
  go_ret
  exact ⟨rfl, rfl⟩
set_option maxRecDepth 100000 in
theorem AsInt_calls (n : Int) (w : World) :
    Calls Try.prog 167 #[.agg #[.iface 2 (.int .i64 n)]] w fun e w' => e = .returned (.int .i64 n) ∧ w.alloc (.cells #[.iface 2 (.int .i64 n)] 217) = w' := by
  go_enter Try.func167, Try.ntmps167
  go_wp2
  go_ret
  exact ⟨rfl, rfl⟩
set_option maxRecDepth 100000 in
theorem AsFloat_calls (f : Nat) (w : World) :
    Calls Try.prog 166 #[.agg #[.iface 22 (.float .f64 f)]] w fun e w' => e = .returned (.float .f64 f) ∧ w.alloc (.cells #[.iface 22 (.float .f64 f)] 217) = w' := by
  go_enter Try.func166, Try.ntmps166
  go_wp2
  go_ret
  exact ⟨rfl, rfl⟩
set_option maxRecDepth 100000 in
theorem Unstructured_calls {F : Nat → Prop} {W : World} {t : T} {u : Value} (h : AnyAt F W t u) (w : World) :
    Calls Try.prog 180 #[.agg #[u]] w fun e w' => e = .returned u ∧ w.alloc (.cells #[u] 217) = w' := by
  cases h
  all_goals
    go_enter Try.func180, Try.ntmps180
    go_wp2
    go_ret
    exact ⟨rfl, rfl⟩
set_option maxRecDepth 100000 in
theorem AsListUsing_calls (A : Option Addr) (n c : Nat) (al : Value) (w : World) :
    Calls Try.prog 169 #[.agg #[.iface 184 (.slice A n c)], al] w fun e w' => e = .returned (.iface 280 (.slice A n c)) ∧ w.alloc (.cells #[.iface 184 (.slice A n c)] 217) = w' := by
  go_enter Try.func169, Try.ntmps169
  go_wp2
  go_ret
  exact ⟨rfl, rfl⟩
set_option maxRecDepth 100000 in
theorem AsMapUsing_calls (r : Nat) (al : Value) (w : World) :
    Calls Try.prog 171 #[.agg #[.iface 126 (.map (some r))], al] w fun e w' => e = .returned (.iface 281 (.map (some r))) ∧ w.alloc (.cells #[.iface 126 (.map (some r))] 217) = w' := by
  go_enter Try.func171, Try.ntmps171
  go_wp2
  go_ret
  exact ⟨rfl, rfl⟩

end Go.Proofs.Ytekaainjpddklaa
