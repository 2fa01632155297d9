/-
  Each marshaller of the package gives nothing for nothing (nil, and no error). Conditions: for lists, sets and maps the type is one of several.
-/
import Derived.Test.YtammjbmfiakbnaaGreatDoorFacts
import Derived.Test.YtammjbmfiakbnaaGreatDoorMem
import Derived.Outline
namespace Go.Proofs.YtammjbmfiakbnaaGreatDoor
open Go.RowKit

set_option maxRecDepth 100000 in
theorem nil_52 (info : Value) (w : World) : Calls Tryz.prog 52 #[info, .nilIface] w fun e w' => e = .returned (.tuple #[.slice none 0 0, .nilIface]) ∧ Ext w w' := by
  go_enter Tryz.func52, Tryz.ntmps52
  go_wp2_with fail
  go_ret2
  exact ⟨rfl, Ext.refl _⟩

set_option maxRecDepth 100000 in
theorem nil_53 (info : Value) (w : World) : Calls Tryz.prog 53 #[info, .nilIface] w fun e w' => e = .returned (.tuple #[.slice none 0 0, .nilIface]) ∧ Ext w w' := by
  go_enter Tryz.func53, Tryz.ntmps53
  go_wp2_with fail
  go_ret2
  exact ⟨rfl, Ext.refl _⟩

set_option maxRecDepth 100000 in
theorem nil_54 (info : Value) (w : World) : Calls Tryz.prog 54 #[info, .nilIface] w fun e w' => e = .returned (.tuple #[.slice none 0 0, .nilIface]) ∧ Ext w w' := by
  go_enter Tryz.func54, Tryz.ntmps54
  go_wp2_with fail
  go_ret2
  exact ⟨rfl, Ext.refl _⟩

set_option maxRecDepth 100000 in
theorem nil_55 (info : Value) (w : World) : Calls Tryz.prog 55 #[info, .nilIface] w fun e w' => e = .returned (.tuple #[.slice none 0 0, .nilIface]) ∧ Ext w w' := by
  go_enter Tryz.func55, Tryz.ntmps55
  go_wp2_with fail
  go_ret2
  exact ⟨rfl, Ext.refl _⟩

set_option maxRecDepth 100000 in
theorem nil_56 (info : Value) (w : World) : Calls Tryz.prog 56 #[info, .nilIface] w fun e w' => e = .returned (.tuple #[.slice none 0 0, .nilIface]) ∧ Ext w w' := by
  go_enter Tryz.func56, Tryz.ntmps56
  go_wp2_with fail
  go_ret2
  exact ⟨rfl, Ext.refl _⟩

set_option maxRecDepth 100000 in
theorem nil_57 (info : Value) (w : World) : Calls Tryz.prog 57 #[info, .nilIface] w fun e w' => e = .returned (.tuple #[.slice none 0 0, .nilIface]) ∧ Ext w w' := by
  go_enter Tryz.func57, Tryz.ntmps57
  go_wp2_with fail
  go_ret2
  exact ⟨rfl, Ext.refl _⟩

set_option maxRecDepth 100000 in
theorem nil_58 (info : Value) (w : World) : Calls Tryz.prog 58 #[info, .nilIface] w fun e w' => e = .returned (.tuple #[.slice none 0 0, .nilIface]) ∧ Ext w w' := by
  go_enter Tryz.func58, Tryz.ntmps58
  go_wp2_with fail
  go_ret2
  exact ⟨rfl, Ext.refl _⟩

set_option maxRecDepth 100000 in
theorem nil_59 (info : Value) (w : World) : Calls Tryz.prog 59 #[info, .nilIface] w fun e w' => e = .returned (.tuple #[.slice none 0 0, .nilIface]) ∧ Ext w w' := by
  go_enter Tryz.func59, Tryz.ntmps59
  go_wp2_with fail
  go_ret2
  exact ⟨rfl, Ext.refl _⟩

set_option maxRecDepth 100000 in
theorem nil_60 (info : Value) (w : World) : Calls Tryz.prog 60 #[info, .nilIface] w fun e w' => e = .returned (.tuple #[.slice none 0 0, .nilIface]) ∧ Ext w w' := by
  go_enter Tryz.func60, Tryz.ntmps60
  go_wp2_with fail
  go_ret2
  exact ⟨rfl, Ext.refl _⟩

set_option maxRecDepth 100000 in
theorem nil_61 (info : Value) (w : World) : Calls Tryz.prog 61 #[info, .nilIface] w fun e w' => e = .returned (.tuple #[.slice none 0 0, .nilIface]) ∧ Ext w w' := by
  go_enter Tryz.func61, Tryz.ntmps61
  go_wp2_with fail
  go_ret2
  exact ⟨rfl, Ext.refl _⟩

set_option maxRecDepth 100000 in
theorem nil_62 (info : Value) (w : World) : Calls Tryz.prog 62 #[info, .nilIface] w fun e w' => e = .returned (.tuple #[.slice none 0 0, .nilIface]) ∧ Ext w w' := by
  go_enter Tryz.func62, Tryz.ntmps62
  go_wp2_with fail
  go_ret2
  exact ⟨rfl, Ext.refl _⟩

set_option maxRecDepth 100000 in
theorem nil_65 (info : Value) (w : World) : Calls Tryz.prog 65 #[info, .nilIface] w fun e w' => e = .returned (.tuple #[.slice none 0 0, .nilIface]) ∧ Ext w w' := by
  go_enter Tryz.func65, Tryz.ntmps65
  go_wp2_with fail
  go_ret2
  exact ⟨rfl, Ext.refl _⟩

set_option maxRecDepth 100000 in
theorem nil_67 (info : Value) (w : World) : Calls Tryz.prog 67 #[info, .nilIface] w fun e w' => e = .returned (.tuple #[.slice none 0 0, .nilIface]) ∧ Ext w w' := by
  go_enter Tryz.func67, Tryz.ntmps67
  go_wp2_with fail
  go_ret2
  exact ⟨rfl, Ext.refl _⟩

set_option maxRecDepth 100000 in
theorem nil_70 (info : Value) (w : World) : Calls Tryz.prog 70 #[info, .nilIface] w fun e w' => e = .returned (.tuple #[.slice none 0 0, .nilIface]) ∧ Ext w w' := by
  go_enter Tryz.func70, Tryz.ntmps70
  go_wp2_with fail
  go_ret2
  exact ⟨rfl, Ext.refl _⟩

set_option maxRecDepth 100000 in
theorem nil_71 (info : Value) (w : World) : Calls Tryz.prog 71 #[info, .nilIface] w fun e w' => e = .returned (.tuple #[.slice none 0 0, .nilIface]) ∧ Ext w w' := by
  go_enter Tryz.func71, Tryz.ntmps71
  go_wp2_with fail
  go_ret2
  exact ⟨rfl, Ext.refl _⟩

set_option maxRecDepth 100000 in
theorem nil_66 (info : Value) (w : World) : Calls Tryz.prog 66 #[info, .nilIface] w fun e w' => e = .returned (.tuple #[.slice none 0 0, .nilIface]) ∧ Ext w w' := by
  go_enter Tryz.func66, Tryz.ntmps66
  go_wp2_with fail
  refine (nil_57 _ _).mono ?_
  rintro e w1 ⟨rfl, hx1⟩
  go_wp2_with fail
  refine wp_loop_once ?_
  go_wp2_with fail
  go_ret2
  exact ⟨rfl, hx1⟩

set_option maxRecDepth 100000 in
theorem nil_63 (k : Int) (Te : TypeId) (ve : Value) (w : World) : Calls Tryz.prog 63 #[.iface 98 (.agg #[.int .u8 4, .int .i64 k, .string ⟨#[]⟩, .nilIface, .iface Te ve]), .nilIface] w fun e w' => e = .returned (.tuple #[.slice none 0 0, .nilIface]) ∧ Ext w w' := by
  go_enter Tryz.func63, Tryz.ntmps63
  go_wp2_with fail
  go_ret2
  exact ⟨rfl, (Ext.refl _).alloc _⟩

set_option maxRecDepth 100000 in
theorem nil_64 (k : Int) (Tk Te : TypeId) (vk ve : Value) (w : World) : Calls Tryz.prog 64 #[.iface 98 (.agg #[.int .u8 4, .int .i64 k, .string ⟨#[]⟩, .iface Tk vk, .iface Te ve]), .nilIface] w fun e w' => e = .returned (.tuple #[.slice none 0 0, .nilIface]) ∧ Ext w w' := by
  go_enter Tryz.func64, Tryz.ntmps64
  go_wp2_with fail
  go_ret2
  exact ⟨rfl, (Ext.refl _).alloc _⟩

end Go.Proofs.YtammjbmfiakbnaaGreatDoor
