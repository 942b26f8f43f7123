/-
  WHAT EACH TYPE ASSERTION ON A TYPE OF THE PACKAGE ANSWERS (laid by gen_assert.py).
-/
import Derived.Test.YtpmfjbmfjfhghaaGreatChecked
import Derived.WalkKit
namespace Go.Proofs.YtpmfjbmfjfhghaaGreat

@[go_sem] theorem ta_Null_Null (v : Value) (w : World) : Sem.run Tryz.prog (Instr.typeAssert (.iface 94 v) 68 94 true) w = .ok (.tuple #[v, .bool true]) w := by kernel_rfl
@[go_sem] theorem tb_Null_Null (v : Value) (w : World) : Sem.run Tryz.prog (Instr.typeAssert (.iface 94 v) 68 94 false) w = .ok v w := by kernel_rfl
@[go_sem] theorem ta_Null_Boolean (v : Value) (w : World) : Sem.run Tryz.prog (Instr.typeAssert (.iface 94 v) 68 96 true) w = .ok (.tuple #[.agg #[], .bool false]) w := by kernel_rfl
@[go_sem] theorem ta_Null_Number (v : Value) (w : World) : Sem.run Tryz.prog (Instr.typeAssert (.iface 94 v) 68 98 true) w = .ok (.tuple #[.agg #[], .bool false]) w := by kernel_rfl
@[go_sem] theorem ta_Null_String (v : Value) (w : World) : Sem.run Tryz.prog (Instr.typeAssert (.iface 94 v) 68 100 true) w = .ok (.tuple #[.agg #[], .bool false]) w := by kernel_rfl
@[go_sem] theorem ta_Null_Arr (v : Value) (w : World) : Sem.run Tryz.prog (Instr.typeAssert (.iface 94 v) 68 102 true) w = .ok (.tuple #[.pointer none, .bool false]) w := by kernel_rfl
@[go_sem] theorem ta_Null_Obj (v : Value) (w : World) : Sem.run Tryz.prog (Instr.typeAssert (.iface 94 v) 68 109 true) w = .ok (.tuple #[.pointer none, .bool false]) w := by kernel_rfl
@[go_sem] theorem ta_Null_Set (v : Value) (w : World) : Sem.run Tryz.prog (Instr.typeAssert (.iface 94 v) 68 113 true) w = .ok (.tuple #[.pointer none, .bool false]) w := by kernel_rfl
@[go_sem] theorem ta_Null_Any (v : Value) (w : World) : Sem.run Tryz.prog (Instr.typeAssert (.iface 94 v) 68 90 true) w = .ok (.tuple #[.slice none 0 0, .bool false]) w := by kernel_rfl
@[go_sem] theorem ta_Null_Fun (v : Value) (w : World) : Sem.run Tryz.prog (Instr.typeAssert (.iface 94 v) 68 75 true) w = .ok (.tuple #[.pointer none, .bool false]) w := by kernel_rfl
@[go_sem] theorem ta_Null_Nam (v : Value) (w : World) : Sem.run Tryz.prog (Instr.typeAssert (.iface 94 v) 68 118 true) w = .ok (.tuple #[.pointer none, .bool false]) w := by kernel_rfl
@[go_sem] theorem ta_Null_Rec (v : Value) (w : World) : Sem.run Tryz.prog (Instr.typeAssert (.iface 94 v) 68 160 true) w = .ok (.tuple #[.pointer none, .bool false]) w := by kernel_rfl
@[go_sem] theorem ta_Boolean_Null (v : Value) (w : World) : Sem.run Tryz.prog (Instr.typeAssert (.iface 96 v) 68 94 true) w = .ok (.tuple #[.agg #[], .bool false]) w := by kernel_rfl
@[go_sem] theorem ta_Boolean_Boolean (v : Value) (w : World) : Sem.run Tryz.prog (Instr.typeAssert (.iface 96 v) 68 96 true) w = .ok (.tuple #[v, .bool true]) w := by kernel_rfl
@[go_sem] theorem tb_Boolean_Boolean (v : Value) (w : World) : Sem.run Tryz.prog (Instr.typeAssert (.iface 96 v) 68 96 false) w = .ok v w := by kernel_rfl
@[go_sem] theorem ta_Boolean_Number (v : Value) (w : World) : Sem.run Tryz.prog (Instr.typeAssert (.iface 96 v) 68 98 true) w = .ok (.tuple #[.agg #[], .bool false]) w := by kernel_rfl
@[go_sem] theorem ta_Boolean_String (v : Value) (w : World) : Sem.run Tryz.prog (Instr.typeAssert (.iface 96 v) 68 100 true) w = .ok (.tuple #[.agg #[], .bool false]) w := by kernel_rfl
@[go_sem] theorem ta_Boolean_Arr (v : Value) (w : World) : Sem.run Tryz.prog (Instr.typeAssert (.iface 96 v) 68 102 true) w = .ok (.tuple #[.pointer none, .bool false]) w := by kernel_rfl
@[go_sem] theorem ta_Boolean_Obj (v : Value) (w : World) : Sem.run Tryz.prog (Instr.typeAssert (.iface 96 v) 68 109 true) w = .ok (.tuple #[.pointer none, .bool false]) w := by kernel_rfl
@[go_sem] theorem ta_Boolean_Set (v : Value) (w : World) : Sem.run Tryz.prog (Instr.typeAssert (.iface 96 v) 68 113 true) w = .ok (.tuple #[.pointer none, .bool false]) w := by kernel_rfl
@[go_sem] theorem ta_Boolean_Any (v : Value) (w : World) : Sem.run Tryz.prog (Instr.typeAssert (.iface 96 v) 68 90 true) w = .ok (.tuple #[.slice none 0 0, .bool false]) w := by kernel_rfl
@[go_sem] theorem ta_Boolean_Fun (v : Value) (w : World) : Sem.run Tryz.prog (Instr.typeAssert (.iface 96 v) 68 75 true) w = .ok (.tuple #[.pointer none, .bool false]) w := by kernel_rfl
@[go_sem] theorem ta_Boolean_Nam (v : Value) (w : World) : Sem.run Tryz.prog (Instr.typeAssert (.iface 96 v) 68 118 true) w = .ok (.tuple #[.pointer none, .bool false]) w := by kernel_rfl
@[go_sem] theorem ta_Boolean_Rec (v : Value) (w : World) : Sem.run Tryz.prog (Instr.typeAssert (.iface 96 v) 68 160 true) w = .ok (.tuple #[.pointer none, .bool false]) w := by kernel_rfl
@[go_sem] theorem ta_Number_Null (v : Value) (w : World) : Sem.run Tryz.prog (Instr.typeAssert (.iface 98 v) 68 94 true) w = .ok (.tuple #[.agg #[], .bool false]) w := by kernel_rfl
@[go_sem] theorem ta_Number_Boolean (v : Value) (w : World) : Sem.run Tryz.prog (Instr.typeAssert (.iface 98 v) 68 96 true) w = .ok (.tuple #[.agg #[], .bool false]) w := by kernel_rfl
@[go_sem] theorem ta_Number_Number (v : Value) (w : World) : Sem.run Tryz.prog (Instr.typeAssert (.iface 98 v) 68 98 true) w = .ok (.tuple #[v, .bool true]) w := by kernel_rfl
@[go_sem] theorem tb_Number_Number (v : Value) (w : World) : Sem.run Tryz.prog (Instr.typeAssert (.iface 98 v) 68 98 false) w = .ok v w := by kernel_rfl
@[go_sem] theorem ta_Number_String (v : Value) (w : World) : Sem.run Tryz.prog (Instr.typeAssert (.iface 98 v) 68 100 true) w = .ok (.tuple #[.agg #[], .bool false]) w := by kernel_rfl
@[go_sem] theorem ta_Number_Arr (v : Value) (w : World) : Sem.run Tryz.prog (Instr.typeAssert (.iface 98 v) 68 102 true) w = .ok (.tuple #[.pointer none, .bool false]) w := by kernel_rfl
@[go_sem] theorem ta_Number_Obj (v : Value) (w : World) : Sem.run Tryz.prog (Instr.typeAssert (.iface 98 v) 68 109 true) w = .ok (.tuple #[.pointer none, .bool false]) w := by kernel_rfl
@[go_sem] theorem ta_Number_Set (v : Value) (w : World) : Sem.run Tryz.prog (Instr.typeAssert (.iface 98 v) 68 113 true) w = .ok (.tuple #[.pointer none, .bool false]) w := by kernel_rfl
@[go_sem] theorem ta_Number_Any (v : Value) (w : World) : Sem.run Tryz.prog (Instr.typeAssert (.iface 98 v) 68 90 true) w = .ok (.tuple #[.slice none 0 0, .bool false]) w := by kernel_rfl
@[go_sem] theorem ta_Number_Fun (v : Value) (w : World) : Sem.run Tryz.prog (Instr.typeAssert (.iface 98 v) 68 75 true) w = .ok (.tuple #[.pointer none, .bool false]) w := by kernel_rfl
@[go_sem] theorem ta_Number_Nam (v : Value) (w : World) : Sem.run Tryz.prog (Instr.typeAssert (.iface 98 v) 68 118 true) w = .ok (.tuple #[.pointer none, .bool false]) w := by kernel_rfl
@[go_sem] theorem ta_Number_Rec (v : Value) (w : World) : Sem.run Tryz.prog (Instr.typeAssert (.iface 98 v) 68 160 true) w = .ok (.tuple #[.pointer none, .bool false]) w := by kernel_rfl
@[go_sem] theorem ta_String_Null (v : Value) (w : World) : Sem.run Tryz.prog (Instr.typeAssert (.iface 100 v) 68 94 true) w = .ok (.tuple #[.agg #[], .bool false]) w := by kernel_rfl
@[go_sem] theorem ta_String_Boolean (v : Value) (w : World) : Sem.run Tryz.prog (Instr.typeAssert (.iface 100 v) 68 96 true) w = .ok (.tuple #[.agg #[], .bool false]) w := by kernel_rfl
@[go_sem] theorem ta_String_Number (v : Value) (w : World) : Sem.run Tryz.prog (Instr.typeAssert (.iface 100 v) 68 98 true) w = .ok (.tuple #[.agg #[], .bool false]) w := by kernel_rfl
@[go_sem] theorem ta_String_String (v : Value) (w : World) : Sem.run Tryz.prog (Instr.typeAssert (.iface 100 v) 68 100 true) w = .ok (.tuple #[v, .bool true]) w := by kernel_rfl
@[go_sem] theorem tb_String_String (v : Value) (w : World) : Sem.run Tryz.prog (Instr.typeAssert (.iface 100 v) 68 100 false) w = .ok v w := by kernel_rfl
@[go_sem] theorem ta_String_Arr (v : Value) (w : World) : Sem.run Tryz.prog (Instr.typeAssert (.iface 100 v) 68 102 true) w = .ok (.tuple #[.pointer none, .bool false]) w := by kernel_rfl
@[go_sem] theorem ta_String_Obj (v : Value) (w : World) : Sem.run Tryz.prog (Instr.typeAssert (.iface 100 v) 68 109 true) w = .ok (.tuple #[.pointer none, .bool false]) w := by kernel_rfl
@[go_sem] theorem ta_String_Set (v : Value) (w : World) : Sem.run Tryz.prog (Instr.typeAssert (.iface 100 v) 68 113 true) w = .ok (.tuple #[.pointer none, .bool false]) w := by kernel_rfl
@[go_sem] theorem ta_String_Any (v : Value) (w : World) : Sem.run Tryz.prog (Instr.typeAssert (.iface 100 v) 68 90 true) w = .ok (.tuple #[.slice none 0 0, .bool false]) w := by kernel_rfl
@[go_sem] theorem ta_String_Fun (v : Value) (w : World) : Sem.run Tryz.prog (Instr.typeAssert (.iface 100 v) 68 75 true) w = .ok (.tuple #[.pointer none, .bool false]) w := by kernel_rfl
@[go_sem] theorem ta_String_Nam (v : Value) (w : World) : Sem.run Tryz.prog (Instr.typeAssert (.iface 100 v) 68 118 true) w = .ok (.tuple #[.pointer none, .bool false]) w := by kernel_rfl
@[go_sem] theorem ta_String_Rec (v : Value) (w : World) : Sem.run Tryz.prog (Instr.typeAssert (.iface 100 v) 68 160 true) w = .ok (.tuple #[.pointer none, .bool false]) w := by kernel_rfl
@[go_sem] theorem ta_Arr_Null (v : Value) (w : World) : Sem.run Tryz.prog (Instr.typeAssert (.iface 102 v) 68 94 true) w = .ok (.tuple #[.agg #[], .bool false]) w := by kernel_rfl
@[go_sem] theorem ta_Arr_Boolean (v : Value) (w : World) : Sem.run Tryz.prog (Instr.typeAssert (.iface 102 v) 68 96 true) w = .ok (.tuple #[.agg #[], .bool false]) w := by kernel_rfl
@[go_sem] theorem ta_Arr_Number (v : Value) (w : World) : Sem.run Tryz.prog (Instr.typeAssert (.iface 102 v) 68 98 true) w = .ok (.tuple #[.agg #[], .bool false]) w := by kernel_rfl
@[go_sem] theorem ta_Arr_String (v : Value) (w : World) : Sem.run Tryz.prog (Instr.typeAssert (.iface 102 v) 68 100 true) w = .ok (.tuple #[.agg #[], .bool false]) w := by kernel_rfl
@[go_sem] theorem ta_Arr_Arr (v : Value) (w : World) : Sem.run Tryz.prog (Instr.typeAssert (.iface 102 v) 68 102 true) w = .ok (.tuple #[v, .bool true]) w := by kernel_rfl
@[go_sem] theorem tb_Arr_Arr (v : Value) (w : World) : Sem.run Tryz.prog (Instr.typeAssert (.iface 102 v) 68 102 false) w = .ok v w := by kernel_rfl
@[go_sem] theorem ta_Arr_Obj (v : Value) (w : World) : Sem.run Tryz.prog (Instr.typeAssert (.iface 102 v) 68 109 true) w = .ok (.tuple #[.pointer none, .bool false]) w := by kernel_rfl
@[go_sem] theorem ta_Arr_Set (v : Value) (w : World) : Sem.run Tryz.prog (Instr.typeAssert (.iface 102 v) 68 113 true) w = .ok (.tuple #[.pointer none, .bool false]) w := by kernel_rfl
@[go_sem] theorem ta_Arr_Any (v : Value) (w : World) : Sem.run Tryz.prog (Instr.typeAssert (.iface 102 v) 68 90 true) w = .ok (.tuple #[.slice none 0 0, .bool false]) w := by kernel_rfl
@[go_sem] theorem ta_Arr_Fun (v : Value) (w : World) : Sem.run Tryz.prog (Instr.typeAssert (.iface 102 v) 68 75 true) w = .ok (.tuple #[.pointer none, .bool false]) w := by kernel_rfl
@[go_sem] theorem ta_Arr_Nam (v : Value) (w : World) : Sem.run Tryz.prog (Instr.typeAssert (.iface 102 v) 68 118 true) w = .ok (.tuple #[.pointer none, .bool false]) w := by kernel_rfl
@[go_sem] theorem ta_Arr_Rec (v : Value) (w : World) : Sem.run Tryz.prog (Instr.typeAssert (.iface 102 v) 68 160 true) w = .ok (.tuple #[.pointer none, .bool false]) w := by kernel_rfl
@[go_sem] theorem ta_Obj_Null (v : Value) (w : World) : Sem.run Tryz.prog (Instr.typeAssert (.iface 109 v) 68 94 true) w = .ok (.tuple #[.agg #[], .bool false]) w := by kernel_rfl
@[go_sem] theorem ta_Obj_Boolean (v : Value) (w : World) : Sem.run Tryz.prog (Instr.typeAssert (.iface 109 v) 68 96 true) w = .ok (.tuple #[.agg #[], .bool false]) w := by kernel_rfl
@[go_sem] theorem ta_Obj_Number (v : Value) (w : World) : Sem.run Tryz.prog (Instr.typeAssert (.iface 109 v) 68 98 true) w = .ok (.tuple #[.agg #[], .bool false]) w := by kernel_rfl
@[go_sem] theorem ta_Obj_String (v : Value) (w : World) : Sem.run Tryz.prog (Instr.typeAssert (.iface 109 v) 68 100 true) w = .ok (.tuple #[.agg #[], .bool false]) w := by kernel_rfl
@[go_sem] theorem ta_Obj_Arr (v : Value) (w : World) : Sem.run Tryz.prog (Instr.typeAssert (.iface 109 v) 68 102 true) w = .ok (.tuple #[.pointer none, .bool false]) w := by kernel_rfl
@[go_sem] theorem ta_Obj_Obj (v : Value) (w : World) : Sem.run Tryz.prog (Instr.typeAssert (.iface 109 v) 68 109 true) w = .ok (.tuple #[v, .bool true]) w := by kernel_rfl
@[go_sem] theorem tb_Obj_Obj (v : Value) (w : World) : Sem.run Tryz.prog (Instr.typeAssert (.iface 109 v) 68 109 false) w = .ok v w := by kernel_rfl
@[go_sem] theorem ta_Obj_Set (v : Value) (w : World) : Sem.run Tryz.prog (Instr.typeAssert (.iface 109 v) 68 113 true) w = .ok (.tuple #[.pointer none, .bool false]) w := by kernel_rfl
@[go_sem] theorem ta_Obj_Any (v : Value) (w : World) : Sem.run Tryz.prog (Instr.typeAssert (.iface 109 v) 68 90 true) w = .ok (.tuple #[.slice none 0 0, .bool false]) w := by kernel_rfl
@[go_sem] theorem ta_Obj_Fun (v : Value) (w : World) : Sem.run Tryz.prog (Instr.typeAssert (.iface 109 v) 68 75 true) w = .ok (.tuple #[.pointer none, .bool false]) w := by kernel_rfl
@[go_sem] theorem ta_Obj_Nam (v : Value) (w : World) : Sem.run Tryz.prog (Instr.typeAssert (.iface 109 v) 68 118 true) w = .ok (.tuple #[.pointer none, .bool false]) w := by kernel_rfl
@[go_sem] theorem ta_Obj_Rec (v : Value) (w : World) : Sem.run Tryz.prog (Instr.typeAssert (.iface 109 v) 68 160 true) w = .ok (.tuple #[.pointer none, .bool false]) w := by kernel_rfl
@[go_sem] theorem ta_Set_Null (v : Value) (w : World) : Sem.run Tryz.prog (Instr.typeAssert (.iface 113 v) 68 94 true) w = .ok (.tuple #[.agg #[], .bool false]) w := by kernel_rfl
@[go_sem] theorem ta_Set_Boolean (v : Value) (w : World) : Sem.run Tryz.prog (Instr.typeAssert (.iface 113 v) 68 96 true) w = .ok (.tuple #[.agg #[], .bool false]) w := by kernel_rfl
@[go_sem] theorem ta_Set_Number (v : Value) (w : World) : Sem.run Tryz.prog (Instr.typeAssert (.iface 113 v) 68 98 true) w = .ok (.tuple #[.agg #[], .bool false]) w := by kernel_rfl
@[go_sem] theorem ta_Set_String (v : Value) (w : World) : Sem.run Tryz.prog (Instr.typeAssert (.iface 113 v) 68 100 true) w = .ok (.tuple #[.agg #[], .bool false]) w := by kernel_rfl
@[go_sem] theorem ta_Set_Arr (v : Value) (w : World) : Sem.run Tryz.prog (Instr.typeAssert (.iface 113 v) 68 102 true) w = .ok (.tuple #[.pointer none, .bool false]) w := by kernel_rfl
@[go_sem] theorem ta_Set_Obj (v : Value) (w : World) : Sem.run Tryz.prog (Instr.typeAssert (.iface 113 v) 68 109 true) w = .ok (.tuple #[.pointer none, .bool false]) w := by kernel_rfl
@[go_sem] theorem ta_Set_Set (v : Value) (w : World) : Sem.run Tryz.prog (Instr.typeAssert (.iface 113 v) 68 113 true) w = .ok (.tuple #[v, .bool true]) w := by kernel_rfl
@[go_sem] theorem tb_Set_Set (v : Value) (w : World) : Sem.run Tryz.prog (Instr.typeAssert (.iface 113 v) 68 113 false) w = .ok v w := by kernel_rfl
@[go_sem] theorem ta_Set_Any (v : Value) (w : World) : Sem.run Tryz.prog (Instr.typeAssert (.iface 113 v) 68 90 true) w = .ok (.tuple #[.slice none 0 0, .bool false]) w := by kernel_rfl
@[go_sem] theorem ta_Set_Fun (v : Value) (w : World) : Sem.run Tryz.prog (Instr.typeAssert (.iface 113 v) 68 75 true) w = .ok (.tuple #[.pointer none, .bool false]) w := by kernel_rfl
@[go_sem] theorem ta_Set_Nam (v : Value) (w : World) : Sem.run Tryz.prog (Instr.typeAssert (.iface 113 v) 68 118 true) w = .ok (.tuple #[.pointer none, .bool false]) w := by kernel_rfl
@[go_sem] theorem ta_Set_Rec (v : Value) (w : World) : Sem.run Tryz.prog (Instr.typeAssert (.iface 113 v) 68 160 true) w = .ok (.tuple #[.pointer none, .bool false]) w := by kernel_rfl
@[go_sem] theorem ta_Any_Null (v : Value) (w : World) : Sem.run Tryz.prog (Instr.typeAssert (.iface 90 v) 68 94 true) w = .ok (.tuple #[.agg #[], .bool false]) w := by kernel_rfl
@[go_sem] theorem ta_Any_Boolean (v : Value) (w : World) : Sem.run Tryz.prog (Instr.typeAssert (.iface 90 v) 68 96 true) w = .ok (.tuple #[.agg #[], .bool false]) w := by kernel_rfl
@[go_sem] theorem ta_Any_Number (v : Value) (w : World) : Sem.run Tryz.prog (Instr.typeAssert (.iface 90 v) 68 98 true) w = .ok (.tuple #[.agg #[], .bool false]) w := by kernel_rfl
@[go_sem] theorem ta_Any_String (v : Value) (w : World) : Sem.run Tryz.prog (Instr.typeAssert (.iface 90 v) 68 100 true) w = .ok (.tuple #[.agg #[], .bool false]) w := by kernel_rfl
@[go_sem] theorem ta_Any_Arr (v : Value) (w : World) : Sem.run Tryz.prog (Instr.typeAssert (.iface 90 v) 68 102 true) w = .ok (.tuple #[.pointer none, .bool false]) w := by kernel_rfl
@[go_sem] theorem ta_Any_Obj (v : Value) (w : World) : Sem.run Tryz.prog (Instr.typeAssert (.iface 90 v) 68 109 true) w = .ok (.tuple #[.pointer none, .bool false]) w := by kernel_rfl
@[go_sem] theorem ta_Any_Set (v : Value) (w : World) : Sem.run Tryz.prog (Instr.typeAssert (.iface 90 v) 68 113 true) w = .ok (.tuple #[.pointer none, .bool false]) w := by kernel_rfl
@[go_sem] theorem ta_Any_Any (v : Value) (w : World) : Sem.run Tryz.prog (Instr.typeAssert (.iface 90 v) 68 90 true) w = .ok (.tuple #[v, .bool true]) w := by kernel_rfl
@[go_sem] theorem tb_Any_Any (v : Value) (w : World) : Sem.run Tryz.prog (Instr.typeAssert (.iface 90 v) 68 90 false) w = .ok v w := by kernel_rfl
@[go_sem] theorem ta_Any_Fun (v : Value) (w : World) : Sem.run Tryz.prog (Instr.typeAssert (.iface 90 v) 68 75 true) w = .ok (.tuple #[.pointer none, .bool false]) w := by kernel_rfl
@[go_sem] theorem ta_Any_Nam (v : Value) (w : World) : Sem.run Tryz.prog (Instr.typeAssert (.iface 90 v) 68 118 true) w = .ok (.tuple #[.pointer none, .bool false]) w := by kernel_rfl
@[go_sem] theorem ta_Any_Rec (v : Value) (w : World) : Sem.run Tryz.prog (Instr.typeAssert (.iface 90 v) 68 160 true) w = .ok (.tuple #[.pointer none, .bool false]) w := by kernel_rfl
@[go_sem] theorem ta_Fun_Null (v : Value) (w : World) : Sem.run Tryz.prog (Instr.typeAssert (.iface 75 v) 68 94 true) w = .ok (.tuple #[.agg #[], .bool false]) w := by kernel_rfl
@[go_sem] theorem ta_Fun_Boolean (v : Value) (w : World) : Sem.run Tryz.prog (Instr.typeAssert (.iface 75 v) 68 96 true) w = .ok (.tuple #[.agg #[], .bool false]) w := by kernel_rfl
@[go_sem] theorem ta_Fun_Number (v : Value) (w : World) : Sem.run Tryz.prog (Instr.typeAssert (.iface 75 v) 68 98 true) w = .ok (.tuple #[.agg #[], .bool false]) w := by kernel_rfl
@[go_sem] theorem ta_Fun_String (v : Value) (w : World) : Sem.run Tryz.prog (Instr.typeAssert (.iface 75 v) 68 100 true) w = .ok (.tuple #[.agg #[], .bool false]) w := by kernel_rfl
@[go_sem] theorem ta_Fun_Arr (v : Value) (w : World) : Sem.run Tryz.prog (Instr.typeAssert (.iface 75 v) 68 102 true) w = .ok (.tuple #[.pointer none, .bool false]) w := by kernel_rfl
@[go_sem] theorem ta_Fun_Obj (v : Value) (w : World) : Sem.run Tryz.prog (Instr.typeAssert (.iface 75 v) 68 109 true) w = .ok (.tuple #[.pointer none, .bool false]) w := by kernel_rfl
@[go_sem] theorem ta_Fun_Set (v : Value) (w : World) : Sem.run Tryz.prog (Instr.typeAssert (.iface 75 v) 68 113 true) w = .ok (.tuple #[.pointer none, .bool false]) w := by kernel_rfl
@[go_sem] theorem ta_Fun_Any (v : Value) (w : World) : Sem.run Tryz.prog (Instr.typeAssert (.iface 75 v) 68 90 true) w = .ok (.tuple #[.slice none 0 0, .bool false]) w := by kernel_rfl
@[go_sem] theorem ta_Fun_Fun (v : Value) (w : World) : Sem.run Tryz.prog (Instr.typeAssert (.iface 75 v) 68 75 true) w = .ok (.tuple #[v, .bool true]) w := by kernel_rfl
@[go_sem] theorem tb_Fun_Fun (v : Value) (w : World) : Sem.run Tryz.prog (Instr.typeAssert (.iface 75 v) 68 75 false) w = .ok v w := by kernel_rfl
@[go_sem] theorem ta_Fun_Nam (v : Value) (w : World) : Sem.run Tryz.prog (Instr.typeAssert (.iface 75 v) 68 118 true) w = .ok (.tuple #[.pointer none, .bool false]) w := by kernel_rfl
@[go_sem] theorem ta_Fun_Rec (v : Value) (w : World) : Sem.run Tryz.prog (Instr.typeAssert (.iface 75 v) 68 160 true) w = .ok (.tuple #[.pointer none, .bool false]) w := by kernel_rfl
@[go_sem] theorem ta_nil_Null (w : World) : Sem.run Tryz.prog (Instr.typeAssert .nilIface 68 94 true) w = .ok (.tuple #[.agg #[], .bool false]) w := by kernel_rfl
@[go_sem] theorem ta_nil_Boolean (w : World) : Sem.run Tryz.prog (Instr.typeAssert .nilIface 68 96 true) w = .ok (.tuple #[.agg #[], .bool false]) w := by kernel_rfl
@[go_sem] theorem ta_nil_Number (w : World) : Sem.run Tryz.prog (Instr.typeAssert .nilIface 68 98 true) w = .ok (.tuple #[.agg #[], .bool false]) w := by kernel_rfl
@[go_sem] theorem ta_nil_String (w : World) : Sem.run Tryz.prog (Instr.typeAssert .nilIface 68 100 true) w = .ok (.tuple #[.agg #[], .bool false]) w := by kernel_rfl
@[go_sem] theorem ta_nil_Arr (w : World) : Sem.run Tryz.prog (Instr.typeAssert .nilIface 68 102 true) w = .ok (.tuple #[.pointer none, .bool false]) w := by kernel_rfl
@[go_sem] theorem ta_nil_Obj (w : World) : Sem.run Tryz.prog (Instr.typeAssert .nilIface 68 109 true) w = .ok (.tuple #[.pointer none, .bool false]) w := by kernel_rfl
@[go_sem] theorem ta_nil_Set (w : World) : Sem.run Tryz.prog (Instr.typeAssert .nilIface 68 113 true) w = .ok (.tuple #[.pointer none, .bool false]) w := by kernel_rfl
@[go_sem] theorem ta_nil_Any (w : World) : Sem.run Tryz.prog (Instr.typeAssert .nilIface 68 90 true) w = .ok (.tuple #[.slice none 0 0, .bool false]) w := by kernel_rfl
@[go_sem] theorem ta_nil_Fun (w : World) : Sem.run Tryz.prog (Instr.typeAssert .nilIface 68 75 true) w = .ok (.tuple #[.pointer none, .bool false]) w := by kernel_rfl
@[go_sem] theorem ta_nil_Nam (w : World) : Sem.run Tryz.prog (Instr.typeAssert .nilIface 68 118 true) w = .ok (.tuple #[.pointer none, .bool false]) w := by kernel_rfl
@[go_sem] theorem ta_nil_Rec (w : World) : Sem.run Tryz.prog (Instr.typeAssert .nilIface 68 160 true) w = .ok (.tuple #[.pointer none, .bool false]) w := by kernel_rfl
@[go_sem] theorem tk_bool_bool (v : Value) (w : World) : Sem.run Tryz.prog (Instr.typeAssert (.iface 4 v) 20 4 true) w = .ok (.tuple #[v, .bool true]) w := by kernel_rfl
@[go_sem] theorem tk_bool_str (v : Value) (w : World) : Sem.run Tryz.prog (Instr.typeAssert (.iface 4 v) 20 9 true) w = .ok (.tuple #[.string ⟨#[]⟩, .bool false]) w := by kernel_rfl
@[go_sem] theorem tk_str_bool (v : Value) (w : World) : Sem.run Tryz.prog (Instr.typeAssert (.iface 9 v) 20 4 true) w = .ok (.tuple #[.bool false, .bool false]) w := by kernel_rfl
@[go_sem] theorem tk_str_str (v : Value) (w : World) : Sem.run Tryz.prog (Instr.typeAssert (.iface 9 v) 20 9 true) w = .ok (.tuple #[v, .bool true]) w := by kernel_rfl
@[go_sem] theorem tk_nil_bool (w : World) : Sem.run Tryz.prog (Instr.typeAssert .nilIface 20 4 true) w = .ok (.tuple #[.bool false, .bool false]) w := by kernel_rfl
@[go_sem] theorem tk_nil_str (w : World) : Sem.run Tryz.prog (Instr.typeAssert .nilIface 20 9 true) w = .ok (.tuple #[.string ⟨#[]⟩, .bool false]) w := by kernel_rfl

end Go.Proofs.YtpmfjbmfjfhghaaGreat
