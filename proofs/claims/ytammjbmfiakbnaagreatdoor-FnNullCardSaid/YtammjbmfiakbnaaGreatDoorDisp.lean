/-
  gocql.Marshal hands a value to the marshaller of its type's kind, and gives back what that gives. Conditions: the type's methods tell version 4 and the kind; the value has no method MarshalCQL. Printed by gen_disp.py of this work.
-/
import Derived.Test.YtammjbmfiakbnaaGreatDoorFacts
import Derived.Test.YtammjbmfiakbnaaGreatDoorMem
namespace Go.Proofs.YtammjbmfiakbnaaGreatDoor
open Go.RowKit
/-- A native type as the package has it. -/
abbrev natT (k : Int) : Value := .agg #[.int .u8 4, .int .i64 k, .string ⟨#[]⟩]
theorem nt_version (k : Int) (w : World) : Calls Tryz.prog 261 #[natT k] w fun e w' => e = .returned (.int .u8 4) ∧ Ext w w' := by
  go_enter Tryz.func261, Tryz.ntmps261
  go_wp2
  go_ret
  exact ⟨rfl, (Ext.refl w).alloc _⟩
theorem nt_type (k : Int) (w : World) : Calls Tryz.prog 260 #[natT k] w fun e w' => e = .returned (.int .i64 k) ∧ Ext w w' := by
  go_enter Tryz.func260, Tryz.ntmps260
  go_wp2
  go_ret
  exact ⟨rfl, (Ext.refl w).alloc _⟩

/-- The marshaller F hands back a slice with no error, whatever has been made before. -/
def Gives (F : FuncId) (info v : Value) (w : World) (Post : Value → World → Prop) : Prop :=
  ∀ W, Ext w W → Calls Tryz.prog F #[info, v] W fun e w' => ∃ r, e = .returned (.tuple #[r, .nilIface]) ∧ Post r w' ∧ Ext W w'

set_option maxRecDepth 100000 in
theorem disp_1 (T : TypeId) (g v : Value) (w : World) (Post : Value → World → Prop)
    (hV : ∀ W, (method 461 T g "Version").run Tryz.prog W = .ok (261, natT 1) W) (hT : ∀ W, (method 461 T g "Type").run Tryz.prog W = .ok (260, natT 1) W)
    (hA : ∀ W, (Instr.typeAssert v 20 128 true).run Tryz.prog W = .ok (.tuple #[.nilIface, .bool false]) W) (hG : Hid (Gives 52 (.iface T g) v w Post)) :
    Calls Tryz.prog 27 #[.iface T g, v] w fun e w' => ∃ r, e = .returned (.tuple #[r, .nilIface]) ∧ Post r w' ∧ Ext w w' := by
  go_enter Tryz.func27, Tryz.ntmps27
  go_wp2_with fail
  refine (nt_version _ _).mono ?_
  rintro e w1 ⟨rfl, hx1⟩
  go_wp2_with fail
  refine (nt_type _ _).mono ?_
  rintro e w2 ⟨rfl, hx2⟩
  go_wp2_with fail
  refine (hG.out _ (hx1.trans hx2)).mono ?_
  rintro e w3 ⟨r, rfl, hP, hx3⟩
  go_wp2_with fail
  go_ret2
  exact ⟨r, rfl, hP, (hx1.trans hx2).trans hx3⟩

set_option maxRecDepth 100000 in
theorem disp_13 (T : TypeId) (g v : Value) (w : World) (Post : Value → World → Prop)
    (hV : ∀ W, (method 461 T g "Version").run Tryz.prog W = .ok (261, natT 13) W) (hT : ∀ W, (method 461 T g "Type").run Tryz.prog W = .ok (260, natT 13) W)
    (hA : ∀ W, (Instr.typeAssert v 20 128 true).run Tryz.prog W = .ok (.tuple #[.nilIface, .bool false]) W) (hG : Hid (Gives 52 (.iface T g) v w Post)) :
    Calls Tryz.prog 27 #[.iface T g, v] w fun e w' => ∃ r, e = .returned (.tuple #[r, .nilIface]) ∧ Post r w' ∧ Ext w w' := by
  go_enter Tryz.func27, Tryz.ntmps27
  go_wp2_with fail
  refine (nt_version _ _).mono ?_
  rintro e w1 ⟨rfl, hx1⟩
  go_wp2_with fail
  refine (nt_type _ _).mono ?_
  rintro e w2 ⟨rfl, hx2⟩
  go_wp2_with fail
  refine (hG.out _ (hx1.trans hx2)).mono ?_
  rintro e w3 ⟨r, rfl, hP, hx3⟩
  go_wp2_with fail
  go_ret2
  exact ⟨r, rfl, hP, (hx1.trans hx2).trans hx3⟩

set_option maxRecDepth 100000 in
theorem disp_3 (T : TypeId) (g v : Value) (w : World) (Post : Value → World → Prop)
    (hV : ∀ W, (method 461 T g "Version").run Tryz.prog W = .ok (261, natT 3) W) (hT : ∀ W, (method 461 T g "Type").run Tryz.prog W = .ok (260, natT 3) W)
    (hA : ∀ W, (Instr.typeAssert v 20 128 true).run Tryz.prog W = .ok (.tuple #[.nilIface, .bool false]) W) (hG : Hid (Gives 52 (.iface T g) v w Post)) :
    Calls Tryz.prog 27 #[.iface T g, v] w fun e w' => ∃ r, e = .returned (.tuple #[r, .nilIface]) ∧ Post r w' ∧ Ext w w' := by
  go_enter Tryz.func27, Tryz.ntmps27
  go_wp2_with fail
  refine (nt_version _ _).mono ?_
  rintro e w1 ⟨rfl, hx1⟩
  go_wp2_with fail
  refine (nt_type _ _).mono ?_
  rintro e w2 ⟨rfl, hx2⟩
  go_wp2_with fail
  refine (hG.out _ (hx1.trans hx2)).mono ?_
  rintro e w3 ⟨r, rfl, hP, hx3⟩
  go_wp2_with fail
  go_ret2
  exact ⟨r, rfl, hP, (hx1.trans hx2).trans hx3⟩

set_option maxRecDepth 100000 in
theorem disp_4 (T : TypeId) (g v : Value) (w : World) (Post : Value → World → Prop)
    (hV : ∀ W, (method 461 T g "Version").run Tryz.prog W = .ok (261, natT 4) W) (hT : ∀ W, (method 461 T g "Type").run Tryz.prog W = .ok (260, natT 4) W)
    (hA : ∀ W, (Instr.typeAssert v 20 128 true).run Tryz.prog W = .ok (.tuple #[.nilIface, .bool false]) W) (hG : Hid (Gives 53 (.iface T g) v w Post)) :
    Calls Tryz.prog 27 #[.iface T g, v] w fun e w' => ∃ r, e = .returned (.tuple #[r, .nilIface]) ∧ Post r w' ∧ Ext w w' := by
  go_enter Tryz.func27, Tryz.ntmps27
  go_wp2_with fail
  refine (nt_version _ _).mono ?_
  rintro e w1 ⟨rfl, hx1⟩
  go_wp2_with fail
  refine (nt_type _ _).mono ?_
  rintro e w2 ⟨rfl, hx2⟩
  go_wp2_with fail
  refine (hG.out _ (hx1.trans hx2)).mono ?_
  rintro e w3 ⟨r, rfl, hP, hx3⟩
  go_wp2_with fail
  go_ret2
  exact ⟨r, rfl, hP, (hx1.trans hx2).trans hx3⟩

set_option maxRecDepth 100000 in
theorem disp_20 (T : TypeId) (g v : Value) (w : World) (Post : Value → World → Prop)
    (hV : ∀ W, (method 461 T g "Version").run Tryz.prog W = .ok (261, natT 20) W) (hT : ∀ W, (method 461 T g "Type").run Tryz.prog W = .ok (260, natT 20) W)
    (hA : ∀ W, (Instr.typeAssert v 20 128 true).run Tryz.prog W = .ok (.tuple #[.nilIface, .bool false]) W) (hG : Hid (Gives 54 (.iface T g) v w Post)) :
    Calls Tryz.prog 27 #[.iface T g, v] w fun e w' => ∃ r, e = .returned (.tuple #[r, .nilIface]) ∧ Post r w' ∧ Ext w w' := by
  go_enter Tryz.func27, Tryz.ntmps27
  go_wp2_with fail
  refine (nt_version _ _).mono ?_
  rintro e w1 ⟨rfl, hx1⟩
  go_wp2_with fail
  refine (nt_type _ _).mono ?_
  rintro e w2 ⟨rfl, hx2⟩
  go_wp2_with fail
  refine (hG.out _ (hx1.trans hx2)).mono ?_
  rintro e w3 ⟨r, rfl, hP, hx3⟩
  go_wp2_with fail
  go_ret2
  exact ⟨r, rfl, hP, (hx1.trans hx2).trans hx3⟩

set_option maxRecDepth 100000 in
theorem disp_19 (T : TypeId) (g v : Value) (w : World) (Post : Value → World → Prop)
    (hV : ∀ W, (method 461 T g "Version").run Tryz.prog W = .ok (261, natT 19) W) (hT : ∀ W, (method 461 T g "Type").run Tryz.prog W = .ok (260, natT 19) W)
    (hA : ∀ W, (Instr.typeAssert v 20 128 true).run Tryz.prog W = .ok (.tuple #[.nilIface, .bool false]) W) (hG : Hid (Gives 55 (.iface T g) v w Post)) :
    Calls Tryz.prog 27 #[.iface T g, v] w fun e w' => ∃ r, e = .returned (.tuple #[r, .nilIface]) ∧ Post r w' ∧ Ext w w' := by
  go_enter Tryz.func27, Tryz.ntmps27
  go_wp2_with fail
  refine (nt_version _ _).mono ?_
  rintro e w1 ⟨rfl, hx1⟩
  go_wp2_with fail
  refine (nt_type _ _).mono ?_
  rintro e w2 ⟨rfl, hx2⟩
  go_wp2_with fail
  refine (hG.out _ (hx1.trans hx2)).mono ?_
  rintro e w3 ⟨r, rfl, hP, hx3⟩
  go_wp2_with fail
  go_ret2
  exact ⟨r, rfl, hP, (hx1.trans hx2).trans hx3⟩

set_option maxRecDepth 100000 in
theorem disp_9 (T : TypeId) (g v : Value) (w : World) (Post : Value → World → Prop)
    (hV : ∀ W, (method 461 T g "Version").run Tryz.prog W = .ok (261, natT 9) W) (hT : ∀ W, (method 461 T g "Type").run Tryz.prog W = .ok (260, natT 9) W)
    (hA : ∀ W, (Instr.typeAssert v 20 128 true).run Tryz.prog W = .ok (.tuple #[.nilIface, .bool false]) W) (hG : Hid (Gives 56 (.iface T g) v w Post)) :
    Calls Tryz.prog 27 #[.iface T g, v] w fun e w' => ∃ r, e = .returned (.tuple #[r, .nilIface]) ∧ Post r w' ∧ Ext w w' := by
  go_enter Tryz.func27, Tryz.ntmps27
  go_wp2_with fail
  refine (nt_version _ _).mono ?_
  rintro e w1 ⟨rfl, hx1⟩
  go_wp2_with fail
  refine (nt_type _ _).mono ?_
  rintro e w2 ⟨rfl, hx2⟩
  go_wp2_with fail
  refine (hG.out _ (hx1.trans hx2)).mono ?_
  rintro e w3 ⟨r, rfl, hP, hx3⟩
  go_wp2_with fail
  go_ret2
  exact ⟨r, rfl, hP, (hx1.trans hx2).trans hx3⟩

set_option maxRecDepth 100000 in
theorem disp_2 (T : TypeId) (g v : Value) (w : World) (Post : Value → World → Prop)
    (hV : ∀ W, (method 461 T g "Version").run Tryz.prog W = .ok (261, natT 2) W) (hT : ∀ W, (method 461 T g "Type").run Tryz.prog W = .ok (260, natT 2) W)
    (hA : ∀ W, (Instr.typeAssert v 20 128 true).run Tryz.prog W = .ok (.tuple #[.nilIface, .bool false]) W) (hG : Hid (Gives 57 (.iface T g) v w Post)) :
    Calls Tryz.prog 27 #[.iface T g, v] w fun e w' => ∃ r, e = .returned (.tuple #[r, .nilIface]) ∧ Post r w' ∧ Ext w w' := by
  go_enter Tryz.func27, Tryz.ntmps27
  go_wp2_with fail
  refine (nt_version _ _).mono ?_
  rintro e w1 ⟨rfl, hx1⟩
  go_wp2_with fail
  refine (nt_type _ _).mono ?_
  rintro e w2 ⟨rfl, hx2⟩
  go_wp2_with fail
  refine (hG.out _ (hx1.trans hx2)).mono ?_
  rintro e w3 ⟨r, rfl, hP, hx3⟩
  go_wp2_with fail
  go_ret2
  exact ⟨r, rfl, hP, (hx1.trans hx2).trans hx3⟩

set_option maxRecDepth 100000 in
theorem disp_5 (T : TypeId) (g v : Value) (w : World) (Post : Value → World → Prop)
    (hV : ∀ W, (method 461 T g "Version").run Tryz.prog W = .ok (261, natT 5) W) (hT : ∀ W, (method 461 T g "Type").run Tryz.prog W = .ok (260, natT 5) W)
    (hA : ∀ W, (Instr.typeAssert v 20 128 true).run Tryz.prog W = .ok (.tuple #[.nilIface, .bool false]) W) (hG : Hid (Gives 57 (.iface T g) v w Post)) :
    Calls Tryz.prog 27 #[.iface T g, v] w fun e w' => ∃ r, e = .returned (.tuple #[r, .nilIface]) ∧ Post r w' ∧ Ext w w' := by
  go_enter Tryz.func27, Tryz.ntmps27
  go_wp2_with fail
  refine (nt_version _ _).mono ?_
  rintro e w1 ⟨rfl, hx1⟩
  go_wp2_with fail
  refine (nt_type _ _).mono ?_
  rintro e w2 ⟨rfl, hx2⟩
  go_wp2_with fail
  refine (hG.out _ (hx1.trans hx2)).mono ?_
  rintro e w3 ⟨r, rfl, hP, hx3⟩
  go_wp2_with fail
  go_ret2
  exact ⟨r, rfl, hP, (hx1.trans hx2).trans hx3⟩

set_option maxRecDepth 100000 in
theorem disp_8 (T : TypeId) (g v : Value) (w : World) (Post : Value → World → Prop)
    (hV : ∀ W, (method 461 T g "Version").run Tryz.prog W = .ok (261, natT 8) W) (hT : ∀ W, (method 461 T g "Type").run Tryz.prog W = .ok (260, natT 8) W)
    (hA : ∀ W, (Instr.typeAssert v 20 128 true).run Tryz.prog W = .ok (.tuple #[.nilIface, .bool false]) W) (hG : Hid (Gives 58 (.iface T g) v w Post)) :
    Calls Tryz.prog 27 #[.iface T g, v] w fun e w' => ∃ r, e = .returned (.tuple #[r, .nilIface]) ∧ Post r w' ∧ Ext w w' := by
  go_enter Tryz.func27, Tryz.ntmps27
  go_wp2_with fail
  refine (nt_version _ _).mono ?_
  rintro e w1 ⟨rfl, hx1⟩
  go_wp2_with fail
  refine (nt_type _ _).mono ?_
  rintro e w2 ⟨rfl, hx2⟩
  go_wp2_with fail
  refine (hG.out _ (hx1.trans hx2)).mono ?_
  rintro e w3 ⟨r, rfl, hP, hx3⟩
  go_wp2_with fail
  go_ret2
  exact ⟨r, rfl, hP, (hx1.trans hx2).trans hx3⟩

set_option maxRecDepth 100000 in
theorem disp_7 (T : TypeId) (g v : Value) (w : World) (Post : Value → World → Prop)
    (hV : ∀ W, (method 461 T g "Version").run Tryz.prog W = .ok (261, natT 7) W) (hT : ∀ W, (method 461 T g "Type").run Tryz.prog W = .ok (260, natT 7) W)
    (hA : ∀ W, (Instr.typeAssert v 20 128 true).run Tryz.prog W = .ok (.tuple #[.nilIface, .bool false]) W) (hG : Hid (Gives 59 (.iface T g) v w Post)) :
    Calls Tryz.prog 27 #[.iface T g, v] w fun e w' => ∃ r, e = .returned (.tuple #[r, .nilIface]) ∧ Post r w' ∧ Ext w w' := by
  go_enter Tryz.func27, Tryz.ntmps27
  go_wp2_with fail
  refine (nt_version _ _).mono ?_
  rintro e w1 ⟨rfl, hx1⟩
  go_wp2_with fail
  refine (nt_type _ _).mono ?_
  rintro e w2 ⟨rfl, hx2⟩
  go_wp2_with fail
  refine (hG.out _ (hx1.trans hx2)).mono ?_
  rintro e w3 ⟨r, rfl, hP, hx3⟩
  go_wp2_with fail
  go_ret2
  exact ⟨r, rfl, hP, (hx1.trans hx2).trans hx3⟩

set_option maxRecDepth 100000 in
theorem disp_6 (T : TypeId) (g v : Value) (w : World) (Post : Value → World → Prop)
    (hV : ∀ W, (method 461 T g "Version").run Tryz.prog W = .ok (261, natT 6) W) (hT : ∀ W, (method 461 T g "Type").run Tryz.prog W = .ok (260, natT 6) W)
    (hA : ∀ W, (Instr.typeAssert v 20 128 true).run Tryz.prog W = .ok (.tuple #[.nilIface, .bool false]) W) (hG : Hid (Gives 60 (.iface T g) v w Post)) :
    Calls Tryz.prog 27 #[.iface T g, v] w fun e w' => ∃ r, e = .returned (.tuple #[r, .nilIface]) ∧ Post r w' ∧ Ext w w' := by
  go_enter Tryz.func27, Tryz.ntmps27
  go_wp2_with fail
  refine (nt_version _ _).mono ?_
  rintro e w1 ⟨rfl, hx1⟩
  go_wp2_with fail
  refine (nt_type _ _).mono ?_
  rintro e w2 ⟨rfl, hx2⟩
  go_wp2_with fail
  refine (hG.out _ (hx1.trans hx2)).mono ?_
  rintro e w3 ⟨r, rfl, hP, hx3⟩
  go_wp2_with fail
  go_ret2
  exact ⟨r, rfl, hP, (hx1.trans hx2).trans hx3⟩

set_option maxRecDepth 100000 in
theorem disp_18 (T : TypeId) (g v : Value) (w : World) (Post : Value → World → Prop)
    (hV : ∀ W, (method 461 T g "Version").run Tryz.prog W = .ok (261, natT 18) W) (hT : ∀ W, (method 461 T g "Type").run Tryz.prog W = .ok (260, natT 18) W)
    (hA : ∀ W, (Instr.typeAssert v 20 128 true).run Tryz.prog W = .ok (.tuple #[.nilIface, .bool false]) W) (hG : Hid (Gives 61 (.iface T g) v w Post)) :
    Calls Tryz.prog 27 #[.iface T g, v] w fun e w' => ∃ r, e = .returned (.tuple #[r, .nilIface]) ∧ Post r w' ∧ Ext w w' := by
  go_enter Tryz.func27, Tryz.ntmps27
  go_wp2_with fail
  refine (nt_version _ _).mono ?_
  rintro e w1 ⟨rfl, hx1⟩
  go_wp2_with fail
  refine (nt_type _ _).mono ?_
  rintro e w2 ⟨rfl, hx2⟩
  go_wp2_with fail
  refine (hG.out _ (hx1.trans hx2)).mono ?_
  rintro e w3 ⟨r, rfl, hP, hx3⟩
  go_wp2_with fail
  go_ret2
  exact ⟨r, rfl, hP, (hx1.trans hx2).trans hx3⟩

set_option maxRecDepth 100000 in
theorem disp_11 (T : TypeId) (g v : Value) (w : World) (Post : Value → World → Prop)
    (hV : ∀ W, (method 461 T g "Version").run Tryz.prog W = .ok (261, natT 11) W) (hT : ∀ W, (method 461 T g "Type").run Tryz.prog W = .ok (260, natT 11) W)
    (hA : ∀ W, (Instr.typeAssert v 20 128 true).run Tryz.prog W = .ok (.tuple #[.nilIface, .bool false]) W) (hG : Hid (Gives 62 (.iface T g) v w Post)) :
    Calls Tryz.prog 27 #[.iface T g, v] w fun e w' => ∃ r, e = .returned (.tuple #[r, .nilIface]) ∧ Post r w' ∧ Ext w w' := by
  go_enter Tryz.func27, Tryz.ntmps27
  go_wp2_with fail
  refine (nt_version _ _).mono ?_
  rintro e w1 ⟨rfl, hx1⟩
  go_wp2_with fail
  refine (nt_type _ _).mono ?_
  rintro e w2 ⟨rfl, hx2⟩
  go_wp2_with fail
  refine (hG.out _ (hx1.trans hx2)).mono ?_
  rintro e w3 ⟨r, rfl, hP, hx3⟩
  go_wp2_with fail
  go_ret2
  exact ⟨r, rfl, hP, (hx1.trans hx2).trans hx3⟩

set_option maxRecDepth 100000 in
theorem disp_32 (T : TypeId) (g v : Value) (w : World) (Post : Value → World → Prop)
    (hV : ∀ W, (method 461 T g "Version").run Tryz.prog W = .ok (261, natT 32) W) (hT : ∀ W, (method 461 T g "Type").run Tryz.prog W = .ok (260, natT 32) W)
    (hA : ∀ W, (Instr.typeAssert v 20 128 true).run Tryz.prog W = .ok (.tuple #[.nilIface, .bool false]) W) (hG : Hid (Gives 63 (.iface T g) v w Post)) :
    Calls Tryz.prog 27 #[.iface T g, v] w fun e w' => ∃ r, e = .returned (.tuple #[r, .nilIface]) ∧ Post r w' ∧ Ext w w' := by
  go_enter Tryz.func27, Tryz.ntmps27
  go_wp2_with fail
  refine (nt_version _ _).mono ?_
  rintro e w1 ⟨rfl, hx1⟩
  go_wp2_with fail
  refine (nt_type _ _).mono ?_
  rintro e w2 ⟨rfl, hx2⟩
  go_wp2_with fail
  refine (hG.out _ (hx1.trans hx2)).mono ?_
  rintro e w3 ⟨r, rfl, hP, hx3⟩
  go_wp2_with fail
  go_ret2
  exact ⟨r, rfl, hP, (hx1.trans hx2).trans hx3⟩

set_option maxRecDepth 100000 in
theorem disp_34 (T : TypeId) (g v : Value) (w : World) (Post : Value → World → Prop)
    (hV : ∀ W, (method 461 T g "Version").run Tryz.prog W = .ok (261, natT 34) W) (hT : ∀ W, (method 461 T g "Type").run Tryz.prog W = .ok (260, natT 34) W)
    (hA : ∀ W, (Instr.typeAssert v 20 128 true).run Tryz.prog W = .ok (.tuple #[.nilIface, .bool false]) W) (hG : Hid (Gives 63 (.iface T g) v w Post)) :
    Calls Tryz.prog 27 #[.iface T g, v] w fun e w' => ∃ r, e = .returned (.tuple #[r, .nilIface]) ∧ Post r w' ∧ Ext w w' := by
  go_enter Tryz.func27, Tryz.ntmps27
  go_wp2_with fail
  refine (nt_version _ _).mono ?_
  rintro e w1 ⟨rfl, hx1⟩
  go_wp2_with fail
  refine (nt_type _ _).mono ?_
  rintro e w2 ⟨rfl, hx2⟩
  go_wp2_with fail
  refine (hG.out _ (hx1.trans hx2)).mono ?_
  rintro e w3 ⟨r, rfl, hP, hx3⟩
  go_wp2_with fail
  go_ret2
  exact ⟨r, rfl, hP, (hx1.trans hx2).trans hx3⟩

set_option maxRecDepth 100000 in
theorem disp_33 (T : TypeId) (g v : Value) (w : World) (Post : Value → World → Prop)
    (hV : ∀ W, (method 461 T g "Version").run Tryz.prog W = .ok (261, natT 33) W) (hT : ∀ W, (method 461 T g "Type").run Tryz.prog W = .ok (260, natT 33) W)
    (hA : ∀ W, (Instr.typeAssert v 20 128 true).run Tryz.prog W = .ok (.tuple #[.nilIface, .bool false]) W) (hG : Hid (Gives 64 (.iface T g) v w Post)) :
    Calls Tryz.prog 27 #[.iface T g, v] w fun e w' => ∃ r, e = .returned (.tuple #[r, .nilIface]) ∧ Post r w' ∧ Ext w w' := by
  go_enter Tryz.func27, Tryz.ntmps27
  go_wp2_with fail
  refine (nt_version _ _).mono ?_
  rintro e w1 ⟨rfl, hx1⟩
  go_wp2_with fail
  refine (nt_type _ _).mono ?_
  rintro e w2 ⟨rfl, hx2⟩
  go_wp2_with fail
  refine (hG.out _ (hx1.trans hx2)).mono ?_
  rintro e w3 ⟨r, rfl, hP, hx3⟩
  go_wp2_with fail
  go_ret2
  exact ⟨r, rfl, hP, (hx1.trans hx2).trans hx3⟩

set_option maxRecDepth 100000 in
theorem disp_12 (T : TypeId) (g v : Value) (w : World) (Post : Value → World → Prop)
    (hV : ∀ W, (method 461 T g "Version").run Tryz.prog W = .ok (261, natT 12) W) (hT : ∀ W, (method 461 T g "Type").run Tryz.prog W = .ok (260, natT 12) W)
    (hA : ∀ W, (Instr.typeAssert v 20 128 true).run Tryz.prog W = .ok (.tuple #[.nilIface, .bool false]) W) (hG : Hid (Gives 65 (.iface T g) v w Post)) :
    Calls Tryz.prog 27 #[.iface T g, v] w fun e w' => ∃ r, e = .returned (.tuple #[r, .nilIface]) ∧ Post r w' ∧ Ext w w' := by
  go_enter Tryz.func27, Tryz.ntmps27
  go_wp2_with fail
  refine (nt_version _ _).mono ?_
  rintro e w1 ⟨rfl, hx1⟩
  go_wp2_with fail
  refine (nt_type _ _).mono ?_
  rintro e w2 ⟨rfl, hx2⟩
  go_wp2_with fail
  refine (hG.out _ (hx1.trans hx2)).mono ?_
  rintro e w3 ⟨r, rfl, hP, hx3⟩
  go_wp2_with fail
  go_ret2
  exact ⟨r, rfl, hP, (hx1.trans hx2).trans hx3⟩

set_option maxRecDepth 100000 in
theorem disp_15 (T : TypeId) (g v : Value) (w : World) (Post : Value → World → Prop)
    (hV : ∀ W, (method 461 T g "Version").run Tryz.prog W = .ok (261, natT 15) W) (hT : ∀ W, (method 461 T g "Type").run Tryz.prog W = .ok (260, natT 15) W)
    (hA : ∀ W, (Instr.typeAssert v 20 128 true).run Tryz.prog W = .ok (.tuple #[.nilIface, .bool false]) W) (hG : Hid (Gives 65 (.iface T g) v w Post)) :
    Calls Tryz.prog 27 #[.iface T g, v] w fun e w' => ∃ r, e = .returned (.tuple #[r, .nilIface]) ∧ Post r w' ∧ Ext w w' := by
  go_enter Tryz.func27, Tryz.ntmps27
  go_wp2_with fail
  refine (nt_version _ _).mono ?_
  rintro e w1 ⟨rfl, hx1⟩
  go_wp2_with fail
  refine (nt_type _ _).mono ?_
  rintro e w2 ⟨rfl, hx2⟩
  go_wp2_with fail
  refine (hG.out _ (hx1.trans hx2)).mono ?_
  rintro e w3 ⟨r, rfl, hP, hx3⟩
  go_wp2_with fail
  go_ret2
  exact ⟨r, rfl, hP, (hx1.trans hx2).trans hx3⟩

set_option maxRecDepth 100000 in
theorem disp_14 (T : TypeId) (g v : Value) (w : World) (Post : Value → World → Prop)
    (hV : ∀ W, (method 461 T g "Version").run Tryz.prog W = .ok (261, natT 14) W) (hT : ∀ W, (method 461 T g "Type").run Tryz.prog W = .ok (260, natT 14) W)
    (hA : ∀ W, (Instr.typeAssert v 20 128 true).run Tryz.prog W = .ok (.tuple #[.nilIface, .bool false]) W) (hG : Hid (Gives 66 (.iface T g) v w Post)) :
    Calls Tryz.prog 27 #[.iface T g, v] w fun e w' => ∃ r, e = .returned (.tuple #[r, .nilIface]) ∧ Post r w' ∧ Ext w w' := by
  go_enter Tryz.func27, Tryz.ntmps27
  go_wp2_with fail
  refine (nt_version _ _).mono ?_
  rintro e w1 ⟨rfl, hx1⟩
  go_wp2_with fail
  refine (nt_type _ _).mono ?_
  rintro e w2 ⟨rfl, hx2⟩
  go_wp2_with fail
  refine (hG.out _ (hx1.trans hx2)).mono ?_
  rintro e w3 ⟨r, rfl, hP, hx3⟩
  go_wp2_with fail
  go_ret2
  exact ⟨r, rfl, hP, (hx1.trans hx2).trans hx3⟩

set_option maxRecDepth 100000 in
theorem disp_16 (T : TypeId) (g v : Value) (w : World) (Post : Value → World → Prop)
    (hV : ∀ W, (method 461 T g "Version").run Tryz.prog W = .ok (261, natT 16) W) (hT : ∀ W, (method 461 T g "Type").run Tryz.prog W = .ok (260, natT 16) W)
    (hA : ∀ W, (Instr.typeAssert v 20 128 true).run Tryz.prog W = .ok (.tuple #[.nilIface, .bool false]) W) (hG : Hid (Gives 67 (.iface T g) v w Post)) :
    Calls Tryz.prog 27 #[.iface T g, v] w fun e w' => ∃ r, e = .returned (.tuple #[r, .nilIface]) ∧ Post r w' ∧ Ext w w' := by
  go_enter Tryz.func27, Tryz.ntmps27
  go_wp2_with fail
  refine (nt_version _ _).mono ?_
  rintro e w1 ⟨rfl, hx1⟩
  go_wp2_with fail
  refine (nt_type _ _).mono ?_
  rintro e w2 ⟨rfl, hx2⟩
  go_wp2_with fail
  refine (hG.out _ (hx1.trans hx2)).mono ?_
  rintro e w3 ⟨r, rfl, hP, hx3⟩
  go_wp2_with fail
  go_ret2
  exact ⟨r, rfl, hP, (hx1.trans hx2).trans hx3⟩

set_option maxRecDepth 100000 in
theorem disp_49 (T : TypeId) (g v : Value) (w : World) (Post : Value → World → Prop)
    (hV : ∀ W, (method 461 T g "Version").run Tryz.prog W = .ok (261, natT 49) W) (hT : ∀ W, (method 461 T g "Type").run Tryz.prog W = .ok (260, natT 49) W)
    (hA : ∀ W, (Instr.typeAssert v 20 128 true).run Tryz.prog W = .ok (.tuple #[.nilIface, .bool false]) W) (hG : Hid (Gives 68 (.iface T g) v w Post)) :
    Calls Tryz.prog 27 #[.iface T g, v] w fun e w' => ∃ r, e = .returned (.tuple #[r, .nilIface]) ∧ Post r w' ∧ Ext w w' := by
  go_enter Tryz.func27, Tryz.ntmps27
  go_wp2_with fail
  refine (nt_version _ _).mono ?_
  rintro e w1 ⟨rfl, hx1⟩
  go_wp2_with fail
  refine (nt_type _ _).mono ?_
  rintro e w2 ⟨rfl, hx2⟩
  go_wp2_with fail
  refine (hG.out _ (hx1.trans hx2)).mono ?_
  rintro e w3 ⟨r, rfl, hP, hx3⟩
  go_wp2_with fail
  go_ret2
  exact ⟨r, rfl, hP, (hx1.trans hx2).trans hx3⟩

set_option maxRecDepth 100000 in
theorem disp_48 (T : TypeId) (g v : Value) (w : World) (Post : Value → World → Prop)
    (hV : ∀ W, (method 461 T g "Version").run Tryz.prog W = .ok (261, natT 48) W) (hT : ∀ W, (method 461 T g "Type").run Tryz.prog W = .ok (260, natT 48) W)
    (hA : ∀ W, (Instr.typeAssert v 20 128 true).run Tryz.prog W = .ok (.tuple #[.nilIface, .bool false]) W) (hG : Hid (Gives 69 (.iface T g) v w Post)) :
    Calls Tryz.prog 27 #[.iface T g, v] w fun e w' => ∃ r, e = .returned (.tuple #[r, .nilIface]) ∧ Post r w' ∧ Ext w w' := by
  go_enter Tryz.func27, Tryz.ntmps27
  go_wp2_with fail
  refine (nt_version _ _).mono ?_
  rintro e w1 ⟨rfl, hx1⟩
  go_wp2_with fail
  refine (nt_type _ _).mono ?_
  rintro e w2 ⟨rfl, hx2⟩
  go_wp2_with fail
  refine (hG.out _ (hx1.trans hx2)).mono ?_
  rintro e w3 ⟨r, rfl, hP, hx3⟩
  go_wp2_with fail
  go_ret2
  exact ⟨r, rfl, hP, (hx1.trans hx2).trans hx3⟩

set_option maxRecDepth 100000 in
theorem disp_17 (T : TypeId) (g v : Value) (w : World) (Post : Value → World → Prop)
    (hV : ∀ W, (method 461 T g "Version").run Tryz.prog W = .ok (261, natT 17) W) (hT : ∀ W, (method 461 T g "Type").run Tryz.prog W = .ok (260, natT 17) W)
    (hA : ∀ W, (Instr.typeAssert v 20 128 true).run Tryz.prog W = .ok (.tuple #[.nilIface, .bool false]) W) (hG : Hid (Gives 70 (.iface T g) v w Post)) :
    Calls Tryz.prog 27 #[.iface T g, v] w fun e w' => ∃ r, e = .returned (.tuple #[r, .nilIface]) ∧ Post r w' ∧ Ext w w' := by
  go_enter Tryz.func27, Tryz.ntmps27
  go_wp2_with fail
  refine (nt_version _ _).mono ?_
  rintro e w1 ⟨rfl, hx1⟩
  go_wp2_with fail
  refine (nt_type _ _).mono ?_
  rintro e w2 ⟨rfl, hx2⟩
  go_wp2_with fail
  refine (hG.out _ (hx1.trans hx2)).mono ?_
  rintro e w3 ⟨r, rfl, hP, hx3⟩
  go_wp2_with fail
  go_ret2
  exact ⟨r, rfl, hP, (hx1.trans hx2).trans hx3⟩

set_option maxRecDepth 100000 in
theorem disp_21 (T : TypeId) (g v : Value) (w : World) (Post : Value → World → Prop)
    (hV : ∀ W, (method 461 T g "Version").run Tryz.prog W = .ok (261, natT 21) W) (hT : ∀ W, (method 461 T g "Type").run Tryz.prog W = .ok (260, natT 21) W)
    (hA : ∀ W, (Instr.typeAssert v 20 128 true).run Tryz.prog W = .ok (.tuple #[.nilIface, .bool false]) W) (hG : Hid (Gives 71 (.iface T g) v w Post)) :
    Calls Tryz.prog 27 #[.iface T g, v] w fun e w' => ∃ r, e = .returned (.tuple #[r, .nilIface]) ∧ Post r w' ∧ Ext w w' := by
  go_enter Tryz.func27, Tryz.ntmps27
  go_wp2_with fail
  refine (nt_version _ _).mono ?_
  rintro e w1 ⟨rfl, hx1⟩
  go_wp2_with fail
  refine (nt_type _ _).mono ?_
  rintro e w2 ⟨rfl, hx2⟩
  go_wp2_with fail
  refine (hG.out _ (hx1.trans hx2)).mono ?_
  rintro e w3 ⟨r, rfl, hP, hx3⟩
  go_wp2_with fail
  go_ret2
  exact ⟨r, rfl, hP, (hx1.trans hx2).trans hx3⟩

end Go.Proofs.YtammjbmfiakbnaaGreatDoor
