/- Parts: Val, Spec. -/
import Derived.Test.YtbicoknghdgahaaGreatKA01
import Derived.Test.YtbicoknghdgahaaGreatRows
import Derived.WalkSpells
import Derived.WalkLawsBesides
import Derived.OrdersHeld
import Derived.StillTail
import Derived.StillTailTactics
import Derived.Deep.RegionWith
set_option linter.unusedVariables false
set_option linter.unusedSimpArgs false
namespace Go.Proofs.YtbicoknghdgahaaGreat
open Go.RowKit
attribute [local go_sem] run_store_float

end Go.Proofs.YtbicoknghdgahaaGreat

namespace Go.Proofs.YtbicoknghdgahaaGreat
open Go.RowKit
attribute [local go_sem] run_store_float

theorem run_assert_ok {P : Program} {u : TypeId} {d : TypeDesc} (hu : P.underlying u = some d) (hd : ∀ ms, d ≠ .interface ms) {z : Value} (hz : ∀ w, (zeroValue u).run P w = .ok z w) (t s : TypeId) (v : Value) (w : World) :
  (Instr.typeAssert (.iface t v) s u true).run P w = if t = u then .ok (.tuple #[v, .bool true]) w else .ok (.tuple #[z, .bool false]) w := by
 by_cases h : t = u
 ·cases d <;> first | exact absurd rfl (hd _) | simp [Instr.typeAssert, run_underlying hu, h]
 ·cases d <;> first | exact absurd rfl (hd _) | simp [Instr.typeAssert, run_underlying hu, h, hz]
theorem run_assert_nil {P : Program} {u : TypeId} {d : TypeDesc} (hu : P.underlying u = some d) (hd : ∀ ms, d ≠ .interface ms) {z : Value} (hz : ∀ w, (zeroValue u).run P w = .ok z w) (s : TypeId) (w : World) :
  (Instr.typeAssert .nilIface s u true).run P w = .ok (.tuple #[z, .bool false]) w := by
 cases d <;> first | exact absurd rfl (hd _) | simp [Instr.typeAssert, run_underlying hu, hz]
theorem run_assert_hit {P : Program} {u : TypeId} {d : TypeDesc} (hu : P.underlying u = some d) (hd : ∀ ms, d ≠ .interface ms) (s : TypeId) (v : Value) (w : World) :
  (Instr.typeAssert (.iface u v) s u false).run P w = .ok v w := by
 cases d <;> first | exact absurd rfl (hd _) | simp [Instr.typeAssert, run_underlying hu]
theorem ta_ok0 (t s : TypeId) (v : Value) (w : World) : (Instr.typeAssert (.iface t v) s 307 true).run Tryz.prog w = if t = 307 then .ok (.tuple #[v, .bool true]) w else .ok (.tuple #[.map none, .bool false]) w := run_assert_ok Tryz.underlying307 (by intro ms; simp) (fun _ => by kernel_rfl) t s v w
theorem ta_nil0 (s : TypeId) (w : World) : (Instr.typeAssert .nilIface s 307 true).run Tryz.prog w = .ok (.tuple #[.map none, .bool false]) w := run_assert_nil Tryz.underlying307 (by intro ms; simp) (fun _ => by kernel_rfl) s w
theorem ta_hit0 (s : TypeId) (v : Value) (w : World) : (Instr.typeAssert (.iface 307 v) s 307 false).run Tryz.prog w = .ok v w := run_assert_hit Tryz.underlying307 (by intro ms; simp) s v w
theorem ta_ok1 (t s : TypeId) (v : Value) (w : World) : (Instr.typeAssert (.iface t v) s 292 true).run Tryz.prog w = if t = 292 then .ok (.tuple #[v, .bool true]) w else .ok (.tuple #[.slice none 0 0, .bool false]) w := run_assert_ok Tryz.underlying292 (by intro ms; simp) (fun _ => by kernel_rfl) t s v w
theorem ta_nil1 (s : TypeId) (w : World) : (Instr.typeAssert .nilIface s 292 true).run Tryz.prog w = .ok (.tuple #[.slice none 0 0, .bool false]) w := run_assert_nil Tryz.underlying292 (by intro ms; simp) (fun _ => by kernel_rfl) s w
theorem ta_hit1 (s : TypeId) (v : Value) (w : World) : (Instr.typeAssert (.iface 292 v) s 292 false).run Tryz.prog w = .ok v w := run_assert_hit Tryz.underlying292 (by intro ms; simp) s v w
theorem ta_ok2 (t s : TypeId) (v : Value) (w : World) : (Instr.typeAssert (.iface t v) s 25 true).run Tryz.prog w = if t = 25 then .ok (.tuple #[v, .bool true]) w else .ok (.tuple #[.float .f64 0, .bool false]) w := run_assert_ok Tryz.underlying25 (by intro ms; simp) (fun _ => by kernel_rfl) t s v w
theorem ta_nil2 (s : TypeId) (w : World) : (Instr.typeAssert .nilIface s 25 true).run Tryz.prog w = .ok (.tuple #[.float .f64 0, .bool false]) w := run_assert_nil Tryz.underlying25 (by intro ms; simp) (fun _ => by kernel_rfl) s w
theorem ta_hit2 (s : TypeId) (v : Value) (w : World) : (Instr.typeAssert (.iface 25 v) s 25 false).run Tryz.prog w = .ok v w := run_assert_hit Tryz.underlying25 (by intro ms; simp) s v w
theorem ta_ok3 (t s : TypeId) (v : Value) (w : World) : (Instr.typeAssert (.iface t v) s 440 true).run Tryz.prog w = if t = 440 then .ok (.tuple #[v, .bool true]) w else .ok (.tuple #[.float .f32 0, .bool false]) w := run_assert_ok Tryz.underlying440 (by intro ms; simp) (fun _ => by kernel_rfl) t s v w
theorem ta_nil3 (s : TypeId) (w : World) : (Instr.typeAssert .nilIface s 440 true).run Tryz.prog w = .ok (.tuple #[.float .f32 0, .bool false]) w := run_assert_nil Tryz.underlying440 (by intro ms; simp) (fun _ => by kernel_rfl) s w
theorem ta_hit3 (s : TypeId) (v : Value) (w : World) : (Instr.typeAssert (.iface 440 v) s 440 false).run Tryz.prog w = .ok v w := run_assert_hit Tryz.underlying440 (by intro ms; simp) s v w
theorem ta_ok4 (t s : TypeId) (v : Value) (w : World) : (Instr.typeAssert (.iface t v) s 3 true).run Tryz.prog w = if t = 3 then .ok (.tuple #[v, .bool true]) w else .ok (.tuple #[.int .i64 0, .bool false]) w := run_assert_ok Tryz.underlying3 (by intro ms; simp) (fun _ => by kernel_rfl) t s v w
theorem ta_nil4 (s : TypeId) (w : World) : (Instr.typeAssert .nilIface s 3 true).run Tryz.prog w = .ok (.tuple #[.int .i64 0, .bool false]) w := run_assert_nil Tryz.underlying3 (by intro ms; simp) (fun _ => by kernel_rfl) s w
theorem ta_hit4 (s : TypeId) (v : Value) (w : World) : (Instr.typeAssert (.iface 3 v) s 3 false).run Tryz.prog w = .ok v w := run_assert_hit Tryz.underlying3 (by intro ms; simp) s v w
theorem ta_ok5 (t s : TypeId) (v : Value) (w : World) : (Instr.typeAssert (.iface t v) s 442 true).run Tryz.prog w = if t = 442 then .ok (.tuple #[v, .bool true]) w else .ok (.tuple #[.int .i8 0, .bool false]) w := run_assert_ok Tryz.underlying442 (by intro ms; simp) (fun _ => by kernel_rfl) t s v w
theorem ta_nil5 (s : TypeId) (w : World) : (Instr.typeAssert .nilIface s 442 true).run Tryz.prog w = .ok (.tuple #[.int .i8 0, .bool false]) w := run_assert_nil Tryz.underlying442 (by intro ms; simp) (fun _ => by kernel_rfl) s w
theorem ta_hit5 (s : TypeId) (v : Value) (w : World) : (Instr.typeAssert (.iface 442 v) s 442 false).run Tryz.prog w = .ok v w := run_assert_hit Tryz.underlying442 (by intro ms; simp) s v w
theorem ta_ok6 (t s : TypeId) (v : Value) (w : World) : (Instr.typeAssert (.iface t v) s 444 true).run Tryz.prog w = if t = 444 then .ok (.tuple #[v, .bool true]) w else .ok (.tuple #[.int .i16 0, .bool false]) w := run_assert_ok Tryz.underlying444 (by intro ms; simp) (fun _ => by kernel_rfl) t s v w
theorem ta_nil6 (s : TypeId) (w : World) : (Instr.typeAssert .nilIface s 444 true).run Tryz.prog w = .ok (.tuple #[.int .i16 0, .bool false]) w := run_assert_nil Tryz.underlying444 (by intro ms; simp) (fun _ => by kernel_rfl) s w
theorem ta_hit6 (s : TypeId) (v : Value) (w : World) : (Instr.typeAssert (.iface 444 v) s 444 false).run Tryz.prog w = .ok v w := run_assert_hit Tryz.underlying444 (by intro ms; simp) s v w
theorem ta_ok7 (t s : TypeId) (v : Value) (w : World) : (Instr.typeAssert (.iface t v) s 21 true).run Tryz.prog w = if t = 21 then .ok (.tuple #[v, .bool true]) w else .ok (.tuple #[.int .i32 0, .bool false]) w := run_assert_ok Tryz.underlying21 (by intro ms; simp) (fun _ => by kernel_rfl) t s v w
theorem ta_nil7 (s : TypeId) (w : World) : (Instr.typeAssert .nilIface s 21 true).run Tryz.prog w = .ok (.tuple #[.int .i32 0, .bool false]) w := run_assert_nil Tryz.underlying21 (by intro ms; simp) (fun _ => by kernel_rfl) s w
theorem ta_hit7 (s : TypeId) (v : Value) (w : World) : (Instr.typeAssert (.iface 21 v) s 21 false).run Tryz.prog w = .ok v w := run_assert_hit Tryz.underlying21 (by intro ms; simp) s v w
theorem ta_ok8 (t s : TypeId) (v : Value) (w : World) : (Instr.typeAssert (.iface t v) s 2 true).run Tryz.prog w = if t = 2 then .ok (.tuple #[v, .bool true]) w else .ok (.tuple #[.int .i64 0, .bool false]) w := run_assert_ok Tryz.underlying2 (by intro ms; simp) (fun _ => by kernel_rfl) t s v w
theorem ta_nil8 (s : TypeId) (w : World) : (Instr.typeAssert .nilIface s 2 true).run Tryz.prog w = .ok (.tuple #[.int .i64 0, .bool false]) w := run_assert_nil Tryz.underlying2 (by intro ms; simp) (fun _ => by kernel_rfl) s w
theorem ta_hit8 (s : TypeId) (v : Value) (w : World) : (Instr.typeAssert (.iface 2 v) s 2 false).run Tryz.prog w = .ok v w := run_assert_hit Tryz.underlying2 (by intro ms; simp) s v w
theorem ta_ok9 (t s : TypeId) (v : Value) (w : World) : (Instr.typeAssert (.iface t v) s 312 true).run Tryz.prog w = if t = 312 then .ok (.tuple #[v, .bool true]) w else .ok (.tuple #[.int .u64 0, .bool false]) w := run_assert_ok Tryz.underlying312 (by intro ms; simp) (fun _ => by kernel_rfl) t s v w
theorem ta_nil9 (s : TypeId) (w : World) : (Instr.typeAssert .nilIface s 312 true).run Tryz.prog w = .ok (.tuple #[.int .u64 0, .bool false]) w := run_assert_nil Tryz.underlying312 (by intro ms; simp) (fun _ => by kernel_rfl) s w
theorem ta_hit9 (s : TypeId) (v : Value) (w : World) : (Instr.typeAssert (.iface 312 v) s 312 false).run Tryz.prog w = .ok v w := run_assert_hit Tryz.underlying312 (by intro ms; simp) s v w
theorem ta_ok10 (t s : TypeId) (v : Value) (w : World) : (Instr.typeAssert (.iface t v) s 5 true).run Tryz.prog w = if t = 5 then .ok (.tuple #[v, .bool true]) w else .ok (.tuple #[.int .u8 0, .bool false]) w := run_assert_ok Tryz.underlying5 (by intro ms; simp) (fun _ => by kernel_rfl) t s v w
theorem ta_nil10 (s : TypeId) (w : World) : (Instr.typeAssert .nilIface s 5 true).run Tryz.prog w = .ok (.tuple #[.int .u8 0, .bool false]) w := run_assert_nil Tryz.underlying5 (by intro ms; simp) (fun _ => by kernel_rfl) s w
theorem ta_hit10 (s : TypeId) (v : Value) (w : World) : (Instr.typeAssert (.iface 5 v) s 5 false).run Tryz.prog w = .ok v w := run_assert_hit Tryz.underlying5 (by intro ms; simp) s v w
theorem ta_ok11 (t s : TypeId) (v : Value) (w : World) : (Instr.typeAssert (.iface t v) s 449 true).run Tryz.prog w = if t = 449 then .ok (.tuple #[v, .bool true]) w else .ok (.tuple #[.int .u16 0, .bool false]) w := run_assert_ok Tryz.underlying449 (by intro ms; simp) (fun _ => by kernel_rfl) t s v w
theorem ta_nil11 (s : TypeId) (w : World) : (Instr.typeAssert .nilIface s 449 true).run Tryz.prog w = .ok (.tuple #[.int .u16 0, .bool false]) w := run_assert_nil Tryz.underlying449 (by intro ms; simp) (fun _ => by kernel_rfl) s w
theorem ta_hit11 (s : TypeId) (v : Value) (w : World) : (Instr.typeAssert (.iface 449 v) s 449 false).run Tryz.prog w = .ok v w := run_assert_hit Tryz.underlying449 (by intro ms; simp) s v w
theorem ta_ok12 (t s : TypeId) (v : Value) (w : World) : (Instr.typeAssert (.iface t v) s 384 true).run Tryz.prog w = if t = 384 then .ok (.tuple #[v, .bool true]) w else .ok (.tuple #[.int .u32 0, .bool false]) w := run_assert_ok Tryz.underlying384 (by intro ms; simp) (fun _ => by kernel_rfl) t s v w
theorem ta_nil12 (s : TypeId) (w : World) : (Instr.typeAssert .nilIface s 384 true).run Tryz.prog w = .ok (.tuple #[.int .u32 0, .bool false]) w := run_assert_nil Tryz.underlying384 (by intro ms; simp) (fun _ => by kernel_rfl) s w
theorem ta_hit12 (s : TypeId) (v : Value) (w : World) : (Instr.typeAssert (.iface 384 v) s 384 false).run Tryz.prog w = .ok v w := run_assert_hit Tryz.underlying384 (by intro ms; simp) s v w
theorem ta_ok13 (t s : TypeId) (v : Value) (w : World) : (Instr.typeAssert (.iface t v) s 9 true).run Tryz.prog w = if t = 9 then .ok (.tuple #[v, .bool true]) w else .ok (.tuple #[.string ⟨#[]⟩, .bool false]) w := run_assert_ok Tryz.underlying9 (by intro ms; simp) (fun _ => by kernel_rfl) t s v w
theorem ta_nil13 (s : TypeId) (w : World) : (Instr.typeAssert .nilIface s 9 true).run Tryz.prog w = .ok (.tuple #[.string ⟨#[]⟩, .bool false]) w := run_assert_nil Tryz.underlying9 (by intro ms; simp) (fun _ => by kernel_rfl) s w
theorem ta_hit13 (s : TypeId) (v : Value) (w : World) : (Instr.typeAssert (.iface 9 v) s 9 false).run Tryz.prog w = .ok v w := run_assert_hit Tryz.underlying9 (by intro ms; simp) s v w
theorem ta_ok14 (t s : TypeId) (v : Value) (w : World) : (Instr.typeAssert (.iface t v) s 4 true).run Tryz.prog w = if t = 4 then .ok (.tuple #[v, .bool true]) w else .ok (.tuple #[.bool false, .bool false]) w := run_assert_ok Tryz.underlying4 (by intro ms; simp) (fun _ => by kernel_rfl) t s v w
theorem ta_nil14 (s : TypeId) (w : World) : (Instr.typeAssert .nilIface s 4 true).run Tryz.prog w = .ok (.tuple #[.bool false, .bool false]) w := run_assert_nil Tryz.underlying4 (by intro ms; simp) (fun _ => by kernel_rfl) s w
theorem ta_hit14 (s : TypeId) (v : Value) (w : World) : (Instr.typeAssert (.iface 4 v) s 4 false).run Tryz.prog w = .ok v w := run_assert_hit Tryz.underlying4 (by intro ms; simp) s v w
attribute [local go_sem] ta_ok0 ta_nil0 ta_hit0 ta_ok1 ta_nil1 ta_hit1 ta_ok2 ta_nil2 ta_hit2 ta_ok3 ta_nil3 ta_hit3 ta_ok4 ta_nil4 ta_hit4 ta_ok5 ta_nil5 ta_hit5 ta_ok6 ta_nil6 ta_hit6 ta_ok7 ta_nil7 ta_hit7 ta_ok8 ta_nil8 ta_hit8 ta_ok9 ta_nil9 ta_hit9 ta_ok10 ta_nil10 ta_hit10 ta_ok11 ta_nil11 ta_hit11 ta_ok12 ta_nil12 ta_hit12 ta_ok13 ta_nil13 ta_hit13 ta_ok14 ta_nil14 ta_hit14

def T.isMap : T → Bool | .map _ => true | _ => false
def T.isList : T → Bool | .list _ => true | _ => false
def T.isBool : T → Bool | .bool _ => true | _ => false
def T.isInt : T → Bool | .int _ => true | _ => false
def T.isFlt : T → Bool | .flt _ => true | _ => false
def T.isStr : T → Bool | .str _ => true | _ => false
def T.isNull : T → Bool | .null => true | _ => false

theorem meth_IsMap (n : Nat) (a : Addr) (w : World) : (method (n + 1) 302 (.pointer (some a)) "IsMap").run Tryz.prog w = (Sem.load .plain a fun v => .pure (319, .agg #[v])).run Tryz.prog w := by kernel_rfl
theorem meth_IsList (n : Nat) (a : Addr) (w : World) : (method (n + 1) 302 (.pointer (some a)) "IsList").run Tryz.prog w = (Sem.load .plain a fun v => .pure (318, .agg #[v])).run Tryz.prog w := by kernel_rfl
theorem meth_IsBool (n : Nat) (a : Addr) (w : World) : (method (n + 1) 302 (.pointer (some a)) "IsBool").run Tryz.prog w = (Sem.load .plain a fun v => .pure (315, .agg #[v])).run Tryz.prog w := by kernel_rfl
theorem meth_IsInt (n : Nat) (a : Addr) (w : World) : (method (n + 1) 302 (.pointer (some a)) "IsInt").run Tryz.prog w = (Sem.load .plain a fun v => .pure (317, .agg #[v])).run Tryz.prog w := by kernel_rfl
theorem meth_IsFloat (n : Nat) (a : Addr) (w : World) : (method (n + 1) 302 (.pointer (some a)) "IsFloat").run Tryz.prog w = (Sem.load .plain a fun v => .pure (316, .agg #[v])).run Tryz.prog w := by kernel_rfl
theorem meth_IsString (n : Nat) (a : Addr) (w : World) : (method (n + 1) 302 (.pointer (some a)) "IsString").run Tryz.prog w = (Sem.load .plain a fun v => .pure (321, .agg #[v])).run Tryz.prog w := by kernel_rfl
theorem meth_IsNull (n : Nat) (a : Addr) (w : World) : (method (n + 1) 302 (.pointer (some a)) "IsNull").run Tryz.prog w = (Sem.load .plain a fun v => .pure (320, .agg #[v])).run Tryz.prog w := by kernel_rfl
theorem meth_AsMapUsing (n : Nat) (a : Addr) (w : World) : (method (n + 1) 302 (.pointer (some a)) "AsMapUsing").run Tryz.prog w = (Sem.load .plain a fun v => .pure (313, .agg #[v])).run Tryz.prog w := by kernel_rfl
theorem meth_AsListUsing (n : Nat) (a : Addr) (w : World) : (method (n + 1) 302 (.pointer (some a)) "AsListUsing").run Tryz.prog w = (Sem.load .plain a fun v => .pure (311, .agg #[v])).run Tryz.prog w := by kernel_rfl
theorem meth_AsBool (n : Nat) (a : Addr) (w : World) : (method (n + 1) 302 (.pointer (some a)) "AsBool").run Tryz.prog w = (Sem.load .plain a fun v => .pure (307, .agg #[v])).run Tryz.prog w := by kernel_rfl
theorem meth_AsInt (n : Nat) (a : Addr) (w : World) : (method (n + 1) 302 (.pointer (some a)) "AsInt").run Tryz.prog w = (Sem.load .plain a fun v => .pure (309, .agg #[v])).run Tryz.prog w := by kernel_rfl
theorem meth_AsFloat (n : Nat) (a : Addr) (w : World) : (method (n + 1) 302 (.pointer (some a)) "AsFloat").run Tryz.prog w = (Sem.load .plain a fun v => .pure (308, .agg #[v])).run Tryz.prog w := by kernel_rfl
theorem meth_AsString (n : Nat) (a : Addr) (w : World) : (method (n + 1) 302 (.pointer (some a)) "AsString").run Tryz.prog w = (Sem.load .plain a fun v => .pure (314, .agg #[v])).run Tryz.prog w := by kernel_rfl
set_option maxRecDepth 100000 in
theorem IsMap_calls {F : Nat → Prop} {W : World} {t : T} {u : Value} (h : AnyAt F W t u) (w : World) :
  Calls Tryz.prog 319 #[.agg #[u]] w fun e w' => e = .returned (.bool t.isMap) ∧ w.alloc (.cells #[u] 343) = w' := by
 cases h
 all_goals
  go_enter Tryz.func319, Tryz.ntmps319
  go_wp2
  go_ret
  exact ⟨rfl, rfl⟩
set_option maxRecDepth 100000 in
theorem IsList_calls {F : Nat → Prop} {W : World} {t : T} {u : Value} (h : AnyAt F W t u) (w : World) :
  Calls Tryz.prog 318 #[.agg #[u]] w fun e w' => e = .returned (.bool t.isList) ∧ w.alloc (.cells #[u] 343) = w' := by
 cases h
 all_goals
  go_enter Tryz.func318, Tryz.ntmps318
  go_wp2
  go_ret
  exact ⟨rfl, rfl⟩
set_option maxRecDepth 100000 in
theorem IsBool_calls {F : Nat → Prop} {W : World} {t : T} {u : Value} (h : AnyAt F W t u) (w : World) :
  Calls Tryz.prog 315 #[.agg #[u]] w fun e w' => e = .returned (.bool t.isBool) ∧ w.alloc (.cells #[u] 343) = w' := by
 cases h
 all_goals
  go_enter Tryz.func315, Tryz.ntmps315
  go_wp2
  go_ret
  exact ⟨rfl, rfl⟩
set_option maxRecDepth 100000 in
theorem IsInt_calls {F : Nat → Prop} {W : World} {t : T} {u : Value} (h : AnyAt F W t u) (w : World) :
  Calls Tryz.prog 317 #[.agg #[u]] w fun e w' => e = .returned (.bool t.isInt) ∧ w.alloc (.cells #[u] 343) = w' := by
 cases h
 all_goals
  go_enter Tryz.func317, Tryz.ntmps317
  go_wp2
  go_ret
  exact ⟨rfl, rfl⟩
set_option maxRecDepth 100000 in
theorem IsFloat_calls {F : Nat → Prop} {W : World} {t : T} {u : Value} (h : AnyAt F W t u) (w : World) :
  Calls Tryz.prog 316 #[.agg #[u]] w fun e w' => e = .returned (.bool t.isFlt) ∧ w.alloc (.cells #[u] 343) = w' := by
 cases h
 all_goals
  go_enter Tryz.func316, Tryz.ntmps316
  go_wp2
  go_ret
  exact ⟨rfl, rfl⟩
set_option maxRecDepth 100000 in
theorem IsString_calls {F : Nat → Prop} {W : World} {t : T} {u : Value} (h : AnyAt F W t u) (w : World) :
  Calls Tryz.prog 321 #[.agg #[u]] w fun e w' => e = .returned (.bool t.isStr) ∧ w.alloc (.cells #[u] 343) = w' := by
 cases h
 all_goals
  go_enter Tryz.func321, Tryz.ntmps321
  go_wp2
  go_ret
  exact ⟨rfl, rfl⟩
set_option maxRecDepth 100000 in
theorem IsNull_calls {F : Nat → Prop} {W : World} {t : T} {u : Value} (h : AnyAt F W t u) (w : World) :
  Calls Tryz.prog 320 #[.agg #[u]] w fun e w' => e = .returned (.bool t.isNull) ∧ w.alloc (.cells #[u] 343) = w' := by
 cases h
 all_goals
  go_enter Tryz.func320, Tryz.ntmps320
  go_wp2
  go_ret
  exact ⟨rfl, rfl⟩
set_option maxRecDepth 100000 in
theorem AsBool_calls (b : Bool) (w : World) :
  Calls Tryz.prog 307 #[.agg #[.iface 4 (.bool b)]] w fun e w' => e = .returned (.bool b) ∧ w.alloc (.cells #[.iface 4 (.bool b)] 343) = w' := by
 go_enter Tryz.func307, Tryz.ntmps307
 go_wp2
 go_ret
 exact ⟨rfl, rfl⟩
set_option maxRecDepth 100000 in
theorem AsString_calls (s : ByteArray) (w : World) :
  Calls Tryz.prog 314 #[.agg #[.iface 9 (.string s)]] w fun e w' => e = .returned (.string s) ∧ w.alloc (.cells #[.iface 9 (.string s)] 343) = w' := by
 go_enter Tryz.func314, Tryz.ntmps314
 go_wp2
 go_ret
 exact ⟨rfl, rfl⟩
set_option maxRecDepth 100000 in
theorem AsInt_calls (n : Int) (w : World) :
  Calls Tryz.prog 309 #[.agg #[.iface 2 (.int .i64 n)]] w fun e w' => e = .returned (.int .i64 n) ∧ w.alloc (.cells #[.iface 2 (.int .i64 n)] 343) = w' := by
 go_enter Tryz.func309, Tryz.ntmps309
 go_wp2
 go_ret
 exact ⟨rfl, rfl⟩
set_option maxRecDepth 100000 in
theorem AsFloat_calls (f : Nat) (w : World) :
  Calls Tryz.prog 308 #[.agg #[.iface 25 (.float .f64 f)]] w fun e w' => e = .returned (.float .f64 f) ∧ w.alloc (.cells #[.iface 25 (.float .f64 f)] 343) = w' := by
 go_enter Tryz.func308, Tryz.ntmps308
 go_wp2
 go_ret
 exact ⟨rfl, rfl⟩
set_option maxRecDepth 100000 in
theorem AsListUsing_calls (A : Option Addr) (n c : Nat) (al : Value) (w : World) :
  Calls Tryz.prog 311 #[.agg #[.iface 292 (.slice A n c)], al] w fun e w' => e = .returned (.iface 452 (.slice A n c)) ∧ w.alloc (.cells #[.iface 292 (.slice A n c)] 343) = w' := by
 go_enter Tryz.func311, Tryz.ntmps311
 go_wp2
 go_ret
 exact ⟨rfl, rfl⟩
set_option maxRecDepth 100000 in
theorem AsMapUsing_calls (r : Nat) (al : Value) (w : World) :
  Calls Tryz.prog 313 #[.agg #[.iface 307 (.map (some r))], al] w fun e w' => e = .returned (.iface 453 (.map (some r))) ∧ w.alloc (.cells #[.iface 307 (.map (some r))] 343) = w' := by
 go_enter Tryz.func313, Tryz.ntmps313
 go_wp2
 go_ret
 exact ⟨rfl, rfl⟩

end Go.Proofs.YtbicoknghdgahaaGreat

namespace Go.Proofs.YtbicoknghdgahaaGreat
open Go.RowKit
attribute [local go_sem] run_store_float

theorem run_load_k {P : Program} {α : Type} (a : Addr) (k : Value → Sem α) (w : World) : (Sem.load .plain a k).run P w = ((load a .plain).run P w).andThen fun v w' => (k v).run P w' := by
 have : Sem.load .plain a k = (load a .plain).bind k := rfl
 rw [this, ← Sem.run_bind']

def ValAt (F : Nat → Prop) (w : World) (t : T) (v : Value) : Prop :=
 ∃ (g : Nat) (u : Value), v = .iface 302 (.pointer (some ⟨g, 0, none⟩)) ∧ F g ∧ Bk w g 343 #[u] ∧ AnyAt F w t u
theorem ValAt.keeps {F : Nat → Prop} {w w' : World} {t : T} {v : Value} (h : ValAt F w t v) (k : Keeps F w w') : ValAt F w' t v := by
 obtain ⟨g, u, rfl, hF, hB, hu⟩ := h
 exact ⟨g, u, rfl, hF, (k g hF).trans hB, hu.keeps k⟩
theorem ValAt.mono {F G : Nat → Prop} {w : World} {t : T} {v : Value} (h : ValAt F w t v) (k : ∀ b, F b → G b) : ValAt G w t v := by
 obtain ⟨g, u, rfl, hF, hB, hu⟩ := h
 exact ⟨g, u, rfl, k _ hF, hB, hu.mono k⟩

end Go.Proofs.YtbicoknghdgahaaGreat

namespace Go.Proofs.YtbicoknghdgahaaGreat

theorem zzA {α : Type} {l : List α} {i : Nat} {a : α} : l.toArray.setIfInBounds i a = (l.set i a).toArray := List.setIfInBounds_toArray _ _ _
theorem zzZ {α : Type} {l : List α} {a b : α} : (a :: l).set 0 b = b :: l := List.set_cons_zero
theorem zzS {α : Type} {l : List α} {a b : α} {n : Nat} : (a :: l).set (n + 1) b = a :: l.set n b := List.set_cons_succ
section
variable {P : Program} {ops : Array Oper} {Q : Exit → Act → World → Prop} {md : Region.Mode} {S : World → Prop} {n : Nat} {L : Array Bool → Act → World → Prop}

def wpHead (P : Program) (md : Region.Mode) (ops : Array Oper) (Q : Exit → Act → World → Prop) (S : World → Prop) (n : Nat) (L : Array Bool → Act → World → Prop) : Nat → Array Bool → Act → World → Prop
 | 0, listed, a, w => L listed a w
 | f + 1, listed, a, w => Region.ready md ops listed ≠ [] ∧ ∀ i ∈ Region.ready md ops listed, i < n ∧ wpOp P ops Q i (fun a' w' => S w' ∧ wpHead P md ops Q S n L f (listed.setIfInBounds i true) a' w') a w

theorem wpAny_of_wpHead {g : Nat} (hL : ∀ listed a w, L listed a w → wpAny P md ops Q g listed a w) :
  ∀ (f : Nat) (listed : Array Bool) (a : Act) (w : World), wpHead P md ops Q S n L f listed a w → wpAny P md ops Q (f + g) listed a w
 | 0, listed, a, w, h => by rw [Nat.zero_add]; exact hL _ _ _ h
 | f + 1, listed, a, w, h => by
  rw [show f + 1 + g = (f + g) + 1 by omega]
  exact ⟨fun h0 => absurd h0 h.1, fun i hi => wpOp_mono (fun a' w' h' => wpAny_of_wpHead hL f _ a' w' h'.2) (h.2 i hi).2⟩

theorem wpHead_first {i : Nat} {oi : Oper} {v : Value} (hi : ops[i]? = some oi) (hsel : ∀ (j : Nat) (o : Oper) cs b, ops[j]? = some o → o.op ≠ .select cs b)
  (hQ : ∀ c a w, Q (.panic c) (a.put oi.dst v) w → Q (.panic c) a w)
  (hs : Region.sinkB md ops n = true) (hc : Region.chainB md ops n = true) (hn : n < ops.size) (hin : i < n)
  (hdone : ∀ listed a w, L listed a w → ∀ j ∈ Region.ready md ops listed, n ≤ j) :
  ∀ (f : Nat) (listed : Array Bool) (a : Act) (w : World), HeadInv md ops n listed →
   (∀ j oj, ops[j]? = some oj → j ≠ i → listed.getD j true = false → (∀ e ∈ oj.after, Region.binds md e = true → e.on ≠ i) → oi.apart ops oj = true) →
   i ∈ Region.ready md ops listed → YieldsIf P ops S oi v a → S w →
   wpHead P md ops Q S n L f (listed.setIfInBounds i true) (a.put oi.dst v) w → wpHead P md ops Q S n L (f + 1) listed a w := by
 intro f
 induction f with
 | zero =>
  intro listed a w inv _ hr hy hS H
  have hun := (mem_ready.1 hr).1
  refine ⟨fun h => (by rw [h] at hr; cases hr), fun j hj => ?_⟩
  have hjn : j < n := by
   rcases Nat.lt_or_ge j n with h | h
   ·exact h
   ·exact absurd hj (tail_waits hs hc hn inv _ i rfl hin hun j h)
  refine ⟨hjn, ?_⟩
  by_cases hji : j = i
  ·subst hji; exact hy.wpOp hi hS ⟨hS, H⟩
  ·have := hdone _ _ _ H j (ready_mono hj hji)
   omega
 | succ f ih =>
  intro listed a w inv hfree hr hy hS H
  have hun := (mem_ready.1 hr).1
  refine ⟨fun h => (by rw [h] at hr; cases hr), fun j hj => ?_⟩
  have hjn : j < n := by
   rcases Nat.lt_or_ge j n with h | h
   ·exact h
   ·exact absurd hj (tail_waits hs hc hn inv _ i rfl hin hun j h)
  refine ⟨hjn, ?_⟩
  by_cases hji : j = i
  ·subst hji; exact hy.wpOp hi hS ⟨hS, H⟩
  ·have h1 := (H.2 j (ready_mono hj hji)).2
   obtain ⟨hjun, oj, hoj, hall⟩ := mem_ready.1 hj
   have hnot : ∀ e ∈ oj.after, Region.binds md e = true → e.on ≠ i := fun e he hb heq => by
    have h1 := hall e he hb
    rw [heq, getD_both hun] at h1
    cases h1
   have h2 := wpOp_putIf hoj (hfree j oj hoj hji hjun hnot) (fun cs b => hsel i oi cs b hi) (fun cs b => hsel j oj cs b hoj) hQ hy h1
   have hfree' : ∀ k ok, ops[k]? = some ok → k ≠ i → (listed.setIfInBounds j true).getD k true = false →
     (∀ e ∈ ok.after, Region.binds md e = true → e.on ≠ i) → oi.apart ops ok = true := fun k ok hk hki hun hno => by
    refine hfree k ok hk hki ?_ hno
    by_cases hjk : j = k
    ·subst hjk; exact hjun
    ·rw [getD_set_ne true hjk] at hun; exact hun
   refine wpOp_mono (fun a' w' h3 => ⟨h3.2.1, ih (listed.setIfInBounds j true) a' w' (inv.set hj hjn) hfree' (ready_mono hr (Ne.symm hji)) h3.1 h3.2.1 ?_⟩) h2
   rw [Array.setIfInBounds_comm _ _ hji]
   exact h3.2.2

def HT (P : Program) (l : List Oper) (Q : Exit → Act → World → Prop) (S : World → Prop) (n f : Nat) (listed : Array Bool) (a : Act) (w : World) : Prop :=
 HeadInv .any l.toArray n listed → wpHead P .any l.toArray Q S n (fun listed' a' w' => Region.seqB .any l.toArray (l.toArray.size - n) n listed' = true ∧ wpList P l.toArray Q (l.drop n) a' w') f listed a w

variable {l : List Oper}
def headB (l : List Oper) (n : Nat) : Bool := Region.noSelect l.toArray && decide (n < l.toArray.size) && Region.sinkB .any l.toArray n && Region.chainB .any l.toArray n
def takeB (l : List Oper) (n i : Nat) (listed : Array Bool) : Bool := headB l n && decide (i < n) && Region.free .any l.toArray listed i && (Region.ready .any l.toArray listed).contains i

theorem at_of_drop {i : Nat} {oi : Oper} {r : List Oper} (h : l.drop i = oi :: r) : l.toArray[i]? = some oi := by
 have := congrArg (·[0]?) h
 simpa [List.getElem?_drop] using this

theorem HT.take (i : Nat) {oi : Oper} {r : List Oper} {v : Value} {f : Nat} {listed : Array Bool} {a : Act} {w : World} (hd : l.drop i = oi :: r) (hB : takeB l n i listed = true)
  (hQ : ∀ c a w, Q (.panic c) (a.put oi.dst v) w → Q (.panic c) a w) (hy : YieldsIf P l.toArray S oi v a) (hS : S w)
  (h : HT P l Q S n f (listed.setIfInBounds i true) (a.put oi.dst v) w) : HT P l Q S n (f + 1) listed a w := by
 intro inv
 have hi := at_of_drop hd
 simp only [takeB, headB, Bool.and_eq_true, decide_eq_true_eq] at hB
 obtain ⟨⟨⟨⟨⟨⟨hsel, hn⟩, hs⟩, hc⟩, hin⟩, hf⟩, hr⟩ := hB
 have hr' : i ∈ Region.ready .any l.toArray listed := by simpa using hr
 exact wpHead_first hi (Region.noSelect_spec hsel) hQ hs hc hn hin (fun listed' a' w' hL => seqB_ready hL.1) f listed a w inv (Region.free_spec hi hf) hr' hy hS (h (inv.set hr' hin))

def Held (p : Prop) : Prop := p
theorem Held.out {p : Prop} (h : Held p) : p := h

theorem HT.nx {oi : Oper} {r : List Oper} {v : Value} {f : Nat} {listed : Array Bool} {a : Act} {w : World} (hd : l.drop (n - (f + 1)) = oi :: r) (hB : takeB l n (n - (f + 1)) listed = true)
  (hQ : ∀ c a w, Q (.panic c) (a.put oi.dst v) w → Q (.panic c) a w) (hy : YieldsIf P l.toArray S oi v a) (hS : S w)
  (h : HT P l Q S n f (listed.setIfInBounds (n - (f + 1)) true) (a.put oi.dst v) w) : HT P l Q S n (f + 1) listed a w := HT.take _ hd hB hQ hy hS h

theorem HT.one (i : Nat) {oi : Oper} {r : List Oper} {f : Nat} {listed : Array Bool} {a : Act} {w : World} (hd : l.drop i = oi :: r) (hr : (Region.ready .any l.toArray listed == [i] && decide (i < n)) = true)
  (hw : Region.wanted oi (yielded l.toArray a.tmps) = true)
  (h : ∀ K : Act → World → Prop, Held (∀ a' w', S w' → HT P l Q S n f (listed.setIfInBounds i true) a' w' → K a' w') → oi.wp P a w K Q) : HT P l Q S n (f + 1) listed a w := by
 intro inv
 replace h : wpOp P l.toArray Q i (fun a' w' => S w' ∧ HT P l Q S n f (listed.setIfInBounds i true) a' w') a w := by
  unfold wpOp
  simp only [at_of_drop hd, hw, if_true]
  exact .inl (h _ fun a' w' h1 h2 => ⟨h1, h2⟩)
 simp only [Bool.and_eq_true, beq_iff_eq, decide_eq_true_eq] at hr
 refine ⟨by rw [hr.1]; simp, fun j hj => ?_⟩
 have hji : j = i := by rw [hr.1] at hj; simpa using hj
 subst hji
 exact ⟨hr.2, wpOp_mono (fun a' w' h' => ⟨h'.1, h'.2 (inv.set hj hr.2)⟩) h⟩

theorem HT.done {listed : Array Bool} {a : Act} {w : World} (hB : Region.seqB .any l.toArray (l.toArray.size - n) n listed = true) (h : wpList P l.toArray Q (l.drop n) a w) : HT P l Q S n 0 listed a w :=
 fun _ => ⟨hB, h⟩

theorem wp_region_head (n : Nat) (S : World → Prop) {id : Nat} {a : Act} {w : World} (hm : P.follows .mixedOrders = true) (hB : headB l n = true)
  (h : HT P l Q S n n (Array.replicate l.toArray.size false) a { w with drawn := w.drawn + 1 }) : (Code.region id l.toArray true).wp P Q a w := by
 simp only [headB, Bool.and_eq_true, decide_eq_true_eq] at hB
 obtain ⟨⟨⟨hsel, hn⟩, hs⟩, hc⟩ := hB
 have inv0 : HeadInv .any l.toArray n (Array.replicate l.toArray.size false) :=
  ⟨by simp, fun j oj _ hl => (by rw [getD_replicate_false] at hl; cases hl), fun t _ ht => getD_in (by simpa using ht) (getD_replicate_false _ _)⟩
 have hdl : (l.drop n).length = l.toArray.size - n := by simp
 refine wp_region_any hm ?_
 have := wpAny_of_wpHead (Q := Q) (g := l.toArray.size - n) (fun listed a' w' hL => by
  have := wpAny_of_seq (md := .any) (Q' := Q) (l.drop n) n listed a' w' (fun j => by simp [List.getElem?_drop]) (by rw [hdl]; exact hL.1) hL.2
  rwa [hdl] at this) _ _ _ _ (h inv0)
 rwa [show n + (l.toArray.size - n) = l.toArray.size by have : n < l.toArray.size := hn; omega] at this

end
end Go.Proofs.YtbicoknghdgahaaGreat

namespace Go.Proofs.YtbicoknghdgahaaGreat
open Go.RowKit
attribute [local go_sem] run_store_float

end Go.Proofs.YtbicoknghdgahaaGreat

namespace Go.Proofs.YtbicoknghdgahaaGreat
open Go.RowKit
attribute [local go_sem] run_store_float

end Go.Proofs.YtbicoknghdgahaaGreat

namespace Go.Proofs.YtbicoknghdgahaaGreat
open Go.RowKit
attribute [local go_sem] run_store_float

end Go.Proofs.YtbicoknghdgahaaGreat

namespace Go.Proofs.YtbicoknghdgahaaGreat
open Go.RowKit
attribute [local go_sem] run_store_float

end Go.Proofs.YtbicoknghdgahaaGreat

namespace Go.Proofs.YtbicoknghdgahaaGreat
open Go.RowKit
attribute [local go_sem] run_store_float

theorem i0 : okInt 0 := ⟨by decide, by decide⟩
theorem i1 : okInt 1 := ⟨by decide, by decide⟩
end Go.Proofs.YtbicoknghdgahaaGreat
