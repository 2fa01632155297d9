/-
  What the type assertions of this program give, for each dynamic type that its values have. No conditions. Printed by gen_facts.py of this work.
-/
import Derived.Test.YtammjbmfiakbnaaGreatDoorProg
import Derived.WalkKit
namespace Go.Proofs.YtammjbmfiakbnaaGreatDoor
open Instr (missingMethod least)
def misses (want : Array (String × TypeId)) (got : Array Method) : Bool := want.toList.any fun (name, sig) => !got.any fun m => m.name == name && m.sig == sig
theorem least_cons (s : String) (l : List String) : ∃ x, least (s :: l) = some x := ⟨_, rfl⟩
theorem orElse_some {α : Type} (a b : Option α) (h : ∃ x, b = some x) : ∃ x, (a <|> b) = some x := by
  obtain ⟨x, rfl⟩ := h
  cases a with
  | none => exact ⟨x, rfl⟩
  | some y => exact ⟨y, rfl⟩
theorem least_parts (p : String → Bool) (f : String → String) (s : String) (l : List String) : ∃ x, (least ((s :: l).filter (not ∘ p)) <|> least (((s :: l).filter p).map f)) = some x := by
  by_cases hc : p s = true
  · refine orElse_some _ _ ?_
    rw [List.filter_cons, if_pos hc, List.map_cons]
    exact least_cons _ _
  · rw [List.filter_cons_of_pos (p := not ∘ p) (by simpa using hc)]
    obtain ⟨x, hx⟩ := least_cons s (List.filter (not ∘ p) l)
    exact ⟨x, by rw [hx]; rfl⟩
theorem missing_some {want : Array (String × TypeId)} {got : Array Method} (h : misses want got = true) : ∃ m, missingMethod want got = some m := by
  unfold missingMethod
  have hne : ((want.toList.filter fun (name, sig) => !got.any fun m => m.name == name && m.sig == sig).map (·.1)) ≠ [] := by
    intro e
    simp only [List.map_eq_nil_iff, List.filter_eq_nil_iff] at e
    obtain ⟨x, hx, hm⟩ := List.any_eq_true.1 h
    exact e x hx hm
  generalize ((want.toList.filter fun (name, sig) => !got.any fun m => m.name == name && m.sig == sig).map (·.1)) = l at hne
  cases l with
  | nil => exact absurd rfl hne
  | cons s l =>
    simp only [List.partition_eq_filter_filter]
    exact least_parts _ _ s l

theorem run_assert_iface_no {P : Program} {t a : TypeId} {want : Array (String × TypeId)} {i : TypeInfo} {z : Value} (hu : P.underlying a = some (.interface want)) (hi : P.info? t = some i) (hm : misses want i.methods = true)
    (hz : ∀ W, (zeroValue a).run P W = .ok z W) (v : Value) (x : TypeId) (W : World) : (Instr.typeAssert (.iface t v) x a true).run P W = .ok (.tuple #[z, .bool false]) W := by
  obtain ⟨m, h⟩ := missing_some hm
  simp [Instr.typeAssert, run_underlying hu, typeInfo, hi, h, hz]

theorem info_of {P : Program} {t : TypeId} {f : TypeInfo → Bool} (h : ((P.info? t).map f) = some true) : ∃ i, P.info? t = some i ∧ f i = true := by
  cases hi : P.info? t with
  | none => rw [hi] at h; cases h
  | some i => rw [hi] at h; exact ⟨i, rfl, by simpa using h⟩

theorem misses_marshaler {t : TypeId} (h : ((Tryz.prog.info? t).map fun i => misses #[("MarshalCQL", 130)] i.methods) = some true) (v : Value) (W : World) :
    (Instr.typeAssert (.iface t v) 20 128 true).run Tryz.prog W = .ok (.tuple #[.nilIface, .bool false]) W := by
  obtain ⟨i, hi, hm⟩ := info_of h
  exact run_assert_iface_no (by kernel_rfl) hi hm (fun _ => by kernel_rfl) v 20 W
theorem misses_udt {t : TypeId} (h : ((Tryz.prog.info? t).map fun i => misses #[("MarshalUDT", 188)] i.methods) = some true) (v : Value) (W : World) :
    (Instr.typeAssert (.iface t v) 20 187 true).run Tryz.prog W = .ok (.tuple #[.nilIface, .bool false]) W := by
  obtain ⟨i, hi, hm⟩ := info_of h
  exact run_assert_iface_no (by kernel_rfl) hi hm (fun _ => by kernel_rfl) v 20 W

theorem as_2_128 (v : Value) (W : World) : (Instr.typeAssert (.iface 2 v) 20 128 true).run Tryz.prog W = .ok (.tuple #[.nilIface, .bool false]) W := misses_marshaler (by kernel_rfl) v W
theorem as_4_128 (v : Value) (W : World) : (Instr.typeAssert (.iface 4 v) 20 128 true).run Tryz.prog W = .ok (.tuple #[.nilIface, .bool false]) W := misses_marshaler (by kernel_rfl) v W
theorem as_9_128 (v : Value) (W : World) : (Instr.typeAssert (.iface 9 v) 20 128 true).run Tryz.prog W = .ok (.tuple #[.nilIface, .bool false]) W := misses_marshaler (by kernel_rfl) v W
theorem as_21_128 (v : Value) (W : World) : (Instr.typeAssert (.iface 21 v) 20 128 true).run Tryz.prog W = .ok (.tuple #[.nilIface, .bool false]) W := misses_marshaler (by kernel_rfl) v W
theorem as_26_128 (v : Value) (W : World) : (Instr.typeAssert (.iface 26 v) 20 128 true).run Tryz.prog W = .ok (.tuple #[.nilIface, .bool false]) W := misses_marshaler (by kernel_rfl) v W
theorem as_27_128 (v : Value) (W : World) : (Instr.typeAssert (.iface 27 v) 20 128 true).run Tryz.prog W = .ok (.tuple #[.nilIface, .bool false]) W := misses_marshaler (by kernel_rfl) v W
theorem as_77_128 (v : Value) (W : World) : (Instr.typeAssert (.iface 77 v) 20 128 true).run Tryz.prog W = .ok (.tuple #[.nilIface, .bool false]) W := misses_marshaler (by kernel_rfl) v W
theorem as_106_128 (v : Value) (W : World) : (Instr.typeAssert (.iface 106 v) 20 128 true).run Tryz.prog W = .ok (.tuple #[.nilIface, .bool false]) W := misses_marshaler (by kernel_rfl) v W
theorem as_107_128 (v : Value) (W : World) : (Instr.typeAssert (.iface 107 v) 20 128 true).run Tryz.prog W = .ok (.tuple #[.nilIface, .bool false]) W := misses_marshaler (by kernel_rfl) v W
theorem as_114_128 (v : Value) (W : World) : (Instr.typeAssert (.iface 114 v) 20 128 true).run Tryz.prog W = .ok (.tuple #[.nilIface, .bool false]) W := misses_marshaler (by kernel_rfl) v W
theorem as_116_128 (v : Value) (W : World) : (Instr.typeAssert (.iface 116 v) 20 128 true).run Tryz.prog W = .ok (.tuple #[.nilIface, .bool false]) W := misses_marshaler (by kernel_rfl) v W
theorem as_120_128 (v : Value) (W : World) : (Instr.typeAssert (.iface 120 v) 20 128 true).run Tryz.prog W = .ok (.tuple #[.nilIface, .bool false]) W := misses_marshaler (by kernel_rfl) v W
theorem as_123_128 (v : Value) (W : World) : (Instr.typeAssert (.iface 123 v) 20 128 true).run Tryz.prog W = .ok (.tuple #[.nilIface, .bool false]) W := misses_marshaler (by kernel_rfl) v W
theorem as_125_128 (v : Value) (W : World) : (Instr.typeAssert (.iface 125 v) 20 128 true).run Tryz.prog W = .ok (.tuple #[.nilIface, .bool false]) W := misses_marshaler (by kernel_rfl) v W
theorem as_148_128 (v : Value) (W : World) : (Instr.typeAssert (.iface 148 v) 20 128 true).run Tryz.prog W = .ok (.tuple #[.nilIface, .bool false]) W := misses_marshaler (by kernel_rfl) v W
theorem as_151_128 (v : Value) (W : World) : (Instr.typeAssert (.iface 151 v) 20 128 true).run Tryz.prog W = .ok (.tuple #[.nilIface, .bool false]) W := misses_marshaler (by kernel_rfl) v W
theorem as_152_128 (v : Value) (W : World) : (Instr.typeAssert (.iface 152 v) 20 128 true).run Tryz.prog W = .ok (.tuple #[.nilIface, .bool false]) W := misses_marshaler (by kernel_rfl) v W
theorem as_n_128 (W : World) : (Instr.typeAssert .nilIface 20 128 true).run Tryz.prog W = .ok (.tuple #[.nilIface, .bool false]) W := by kernel_rfl
theorem as_n_154 (W : World) : (Instr.typeAssert .nilIface 20 154 true).run Tryz.prog W = .ok (.tuple #[.agg #[], .bool false]) W := by kernel_rfl
theorem as_n_9 (W : World) : (Instr.typeAssert .nilIface 20 9 true).run Tryz.prog W = .ok (.tuple #[.string ⟨#[]⟩, .bool false]) W := by kernel_rfl
theorem as_n_27 (W : World) : (Instr.typeAssert .nilIface 20 27 true).run Tryz.prog W = .ok (.tuple #[.slice none 0 0, .bool false]) W := by kernel_rfl
theorem as_9_154 (v : Value) (W : World) : (Instr.typeAssert (.iface 9 v) 20 154 true).run Tryz.prog W = .ok (.tuple #[.agg #[], .bool false]) W := by kernel_rfl
theorem as_9_9 (v : Value) (W : World) : (Instr.typeAssert (.iface 9 v) 20 9 true).run Tryz.prog W = .ok (.tuple #[v, .bool true]) W := by kernel_rfl
theorem as_27_154 (v : Value) (W : World) : (Instr.typeAssert (.iface 27 v) 20 154 true).run Tryz.prog W = .ok (.tuple #[.agg #[], .bool false]) W := by kernel_rfl
theorem as_27_9 (v : Value) (W : World) : (Instr.typeAssert (.iface 27 v) 20 9 true).run Tryz.prog W = .ok (.tuple #[.string ⟨#[]⟩, .bool false]) W := by kernel_rfl
theorem as_27_27 (v : Value) (W : World) : (Instr.typeAssert (.iface 27 v) 20 27 true).run Tryz.prog W = .ok (.tuple #[v, .bool true]) W := by kernel_rfl
theorem as_n_4 (W : World) : (Instr.typeAssert .nilIface 20 4 true).run Tryz.prog W = .ok (.tuple #[.bool false, .bool false]) W := by kernel_rfl
theorem as_4_154 (v : Value) (W : World) : (Instr.typeAssert (.iface 4 v) 20 154 true).run Tryz.prog W = .ok (.tuple #[.agg #[], .bool false]) W := by kernel_rfl
theorem as_4_4 (v : Value) (W : World) : (Instr.typeAssert (.iface 4 v) 20 4 true).run Tryz.prog W = .ok (.tuple #[v, .bool true]) W := by kernel_rfl
theorem as_n_106 (W : World) : (Instr.typeAssert .nilIface 20 106 true).run Tryz.prog W = .ok (.tuple #[.int .i8 0, .bool false]) W := by kernel_rfl
theorem as_n_5 (W : World) : (Instr.typeAssert .nilIface 20 5 true).run Tryz.prog W = .ok (.tuple #[.int .u8 0, .bool false]) W := by kernel_rfl
theorem as_n_107 (W : World) : (Instr.typeAssert .nilIface 20 107 true).run Tryz.prog W = .ok (.tuple #[.int .i16 0, .bool false]) W := by kernel_rfl
theorem as_n_158 (W : World) : (Instr.typeAssert .nilIface 20 158 true).run Tryz.prog W = .ok (.tuple #[.int .u16 0, .bool false]) W := by kernel_rfl
theorem as_n_3 (W : World) : (Instr.typeAssert .nilIface 20 3 true).run Tryz.prog W = .ok (.tuple #[.int .i64 0, .bool false]) W := by kernel_rfl
theorem as_n_21 (W : World) : (Instr.typeAssert .nilIface 20 21 true).run Tryz.prog W = .ok (.tuple #[.int .i32 0, .bool false]) W := by kernel_rfl
theorem as_n_2 (W : World) : (Instr.typeAssert .nilIface 20 2 true).run Tryz.prog W = .ok (.tuple #[.int .i64 0, .bool false]) W := by kernel_rfl
theorem as_n_87 (W : World) : (Instr.typeAssert .nilIface 20 87 true).run Tryz.prog W = .ok (.tuple #[.int .u64 0, .bool false]) W := by kernel_rfl
theorem as_n_75 (W : World) : (Instr.typeAssert .nilIface 20 75 true).run Tryz.prog W = .ok (.tuple #[.int .u32 0, .bool false]) W := by kernel_rfl
theorem as_n_73 (W : World) : (Instr.typeAssert .nilIface 20 73 true).run Tryz.prog W = .ok (.tuple #[.int .u64 0, .bool false]) W := by kernel_rfl
theorem as_106_154 (v : Value) (W : World) : (Instr.typeAssert (.iface 106 v) 20 154 true).run Tryz.prog W = .ok (.tuple #[.agg #[], .bool false]) W := by kernel_rfl
theorem as_106_106 (v : Value) (W : World) : (Instr.typeAssert (.iface 106 v) 20 106 true).run Tryz.prog W = .ok (.tuple #[v, .bool true]) W := by kernel_rfl
theorem as_107_154 (v : Value) (W : World) : (Instr.typeAssert (.iface 107 v) 20 154 true).run Tryz.prog W = .ok (.tuple #[.agg #[], .bool false]) W := by kernel_rfl
theorem as_107_107 (v : Value) (W : World) : (Instr.typeAssert (.iface 107 v) 20 107 true).run Tryz.prog W = .ok (.tuple #[v, .bool true]) W := by kernel_rfl
theorem as_21_154 (v : Value) (W : World) : (Instr.typeAssert (.iface 21 v) 20 154 true).run Tryz.prog W = .ok (.tuple #[.agg #[], .bool false]) W := by kernel_rfl
theorem as_21_3 (v : Value) (W : World) : (Instr.typeAssert (.iface 21 v) 20 3 true).run Tryz.prog W = .ok (.tuple #[.int .i64 0, .bool false]) W := by kernel_rfl
theorem as_21_87 (v : Value) (W : World) : (Instr.typeAssert (.iface 21 v) 20 87 true).run Tryz.prog W = .ok (.tuple #[.int .u64 0, .bool false]) W := by kernel_rfl
theorem as_21_2 (v : Value) (W : World) : (Instr.typeAssert (.iface 21 v) 20 2 true).run Tryz.prog W = .ok (.tuple #[.int .i64 0, .bool false]) W := by kernel_rfl
theorem as_21_73 (v : Value) (W : World) : (Instr.typeAssert (.iface 21 v) 20 73 true).run Tryz.prog W = .ok (.tuple #[.int .u64 0, .bool false]) W := by kernel_rfl
theorem as_21_21 (v : Value) (W : World) : (Instr.typeAssert (.iface 21 v) 20 21 true).run Tryz.prog W = .ok (.tuple #[v, .bool true]) W := by kernel_rfl
theorem as_n_114 (W : World) : (Instr.typeAssert .nilIface 20 114 true).run Tryz.prog W = .ok (.tuple #[.agg #[.bool false, .slice none 0 0], .bool false]) W := by kernel_rfl
theorem as_2_154 (v : Value) (W : World) : (Instr.typeAssert (.iface 2 v) 20 154 true).run Tryz.prog W = .ok (.tuple #[.agg #[], .bool false]) W := by kernel_rfl
theorem as_2_3 (v : Value) (W : World) : (Instr.typeAssert (.iface 2 v) 20 3 true).run Tryz.prog W = .ok (.tuple #[.int .i64 0, .bool false]) W := by kernel_rfl
theorem as_2_87 (v : Value) (W : World) : (Instr.typeAssert (.iface 2 v) 20 87 true).run Tryz.prog W = .ok (.tuple #[.int .u64 0, .bool false]) W := by kernel_rfl
theorem as_2_2 (v : Value) (W : World) : (Instr.typeAssert (.iface 2 v) 20 2 true).run Tryz.prog W = .ok (.tuple #[v, .bool true]) W := by kernel_rfl
theorem as_114_154 (v : Value) (W : World) : (Instr.typeAssert (.iface 114 v) 20 154 true).run Tryz.prog W = .ok (.tuple #[.agg #[], .bool false]) W := by kernel_rfl
theorem as_114_3 (v : Value) (W : World) : (Instr.typeAssert (.iface 114 v) 20 3 true).run Tryz.prog W = .ok (.tuple #[.int .i64 0, .bool false]) W := by kernel_rfl
theorem as_114_87 (v : Value) (W : World) : (Instr.typeAssert (.iface 114 v) 20 87 true).run Tryz.prog W = .ok (.tuple #[.int .u64 0, .bool false]) W := by kernel_rfl
theorem as_114_2 (v : Value) (W : World) : (Instr.typeAssert (.iface 114 v) 20 2 true).run Tryz.prog W = .ok (.tuple #[.int .i64 0, .bool false]) W := by kernel_rfl
theorem as_114_73 (v : Value) (W : World) : (Instr.typeAssert (.iface 114 v) 20 73 true).run Tryz.prog W = .ok (.tuple #[.int .u64 0, .bool false]) W := by kernel_rfl
theorem as_114_21 (v : Value) (W : World) : (Instr.typeAssert (.iface 114 v) 20 21 true).run Tryz.prog W = .ok (.tuple #[.int .i32 0, .bool false]) W := by kernel_rfl
theorem as_114_75 (v : Value) (W : World) : (Instr.typeAssert (.iface 114 v) 20 75 true).run Tryz.prog W = .ok (.tuple #[.int .u32 0, .bool false]) W := by kernel_rfl
theorem as_114_107 (v : Value) (W : World) : (Instr.typeAssert (.iface 114 v) 20 107 true).run Tryz.prog W = .ok (.tuple #[.int .i16 0, .bool false]) W := by kernel_rfl
theorem as_114_158 (v : Value) (W : World) : (Instr.typeAssert (.iface 114 v) 20 158 true).run Tryz.prog W = .ok (.tuple #[.int .u16 0, .bool false]) W := by kernel_rfl
theorem as_114_106 (v : Value) (W : World) : (Instr.typeAssert (.iface 114 v) 20 106 true).run Tryz.prog W = .ok (.tuple #[.int .i8 0, .bool false]) W := by kernel_rfl
theorem as_114_5 (v : Value) (W : World) : (Instr.typeAssert (.iface 114 v) 20 5 true).run Tryz.prog W = .ok (.tuple #[.int .u8 0, .bool false]) W := by kernel_rfl
theorem as_114_114 (v : Value) (W : World) : (Instr.typeAssert (.iface 114 v) 20 114 true).run Tryz.prog W = .ok (.tuple #[v, .bool true]) W := by kernel_rfl
theorem as_n_77 (W : World) : (Instr.typeAssert .nilIface 20 77 true).run Tryz.prog W = .ok (.tuple #[.float .f32 0, .bool false]) W := by kernel_rfl
theorem as_77_154 (v : Value) (W : World) : (Instr.typeAssert (.iface 77 v) 20 154 true).run Tryz.prog W = .ok (.tuple #[.agg #[], .bool false]) W := by kernel_rfl
theorem as_77_77 (v : Value) (W : World) : (Instr.typeAssert (.iface 77 v) 20 77 true).run Tryz.prog W = .ok (.tuple #[v, .bool true]) W := by kernel_rfl
theorem as_n_26 (W : World) : (Instr.typeAssert .nilIface 20 26 true).run Tryz.prog W = .ok (.tuple #[.float .f64 0, .bool false]) W := by kernel_rfl
theorem as_26_154 (v : Value) (W : World) : (Instr.typeAssert (.iface 26 v) 20 154 true).run Tryz.prog W = .ok (.tuple #[.agg #[], .bool false]) W := by kernel_rfl
theorem as_26_26 (v : Value) (W : World) : (Instr.typeAssert (.iface 26 v) 20 26 true).run Tryz.prog W = .ok (.tuple #[v, .bool true]) W := by kernel_rfl
theorem as_n_116 (W : World) : (Instr.typeAssert .nilIface 20 116 true).run Tryz.prog W = .ok (.tuple #[.agg #[.bool false, .slice none 0 0, .int .i32 0], .bool false]) W := by kernel_rfl
theorem as_116_154 (v : Value) (W : World) : (Instr.typeAssert (.iface 116 v) 20 154 true).run Tryz.prog W = .ok (.tuple #[.agg #[], .bool false]) W := by kernel_rfl
theorem as_116_116 (v : Value) (W : World) : (Instr.typeAssert (.iface 116 v) 20 116 true).run Tryz.prog W = .ok (.tuple #[v, .bool true]) W := by kernel_rfl
theorem as_n_166 (W : World) : (Instr.typeAssert .nilIface 20 166 true).run Tryz.prog W = .ok (.tuple #[.int .i64 0, .bool false]) W := by kernel_rfl
theorem as_n_170 (W : World) : (Instr.typeAssert .nilIface 20 170 true).run Tryz.prog W = .ok (.tuple #[.agg #[.int .u64 0, .int .i64 0, .pointer none], .bool false]) W := by kernel_rfl
theorem as_n_151 (W : World) : (Instr.typeAssert .nilIface 20 151 true).run Tryz.prog W = .ok (.tuple #[.slice none 0 0, .bool false]) W := by kernel_rfl
theorem as_151_154 (v : Value) (W : World) : (Instr.typeAssert (.iface 151 v) 20 154 true).run Tryz.prog W = .ok (.tuple #[.agg #[], .bool false]) W := by kernel_rfl
theorem as_151_151 (v : Value) (W : World) : (Instr.typeAssert (.iface 151 v) 20 151 true).run Tryz.prog W = .ok (.tuple #[v, .bool true]) W := by kernel_rfl
theorem as_n_148 (W : World) : (Instr.typeAssert .nilIface 20 148 true).run Tryz.prog W = .ok (.tuple #[.slice none 0 0, .bool false]) W := by kernel_rfl
theorem as_148_154 (v : Value) (W : World) : (Instr.typeAssert (.iface 148 v) 20 154 true).run Tryz.prog W = .ok (.tuple #[.agg #[], .bool false]) W := by kernel_rfl
theorem as_148_148 (v : Value) (W : World) : (Instr.typeAssert (.iface 148 v) 20 148 true).run Tryz.prog W = .ok (.tuple #[v, .bool true]) W := by kernel_rfl
theorem as_n_120 (W : World) : (Instr.typeAssert .nilIface 20 120 true).run Tryz.prog W = .ok (.tuple #[.agg #[.int .u8 0, .int .u8 0, .int .u8 0, .int .u8 0, .int .u8 0, .int .u8 0, .int .u8 0, .int .u8 0, .int .u8 0, .int .u8 0, .int .u8 0, .int .u8 0, .int .u8 0, .int .u8 0, .int .u8 0, .int .u8 0], .bool false]) W := by kernel_rfl
theorem as_n_119 (W : World) : (Instr.typeAssert .nilIface 20 119 true).run Tryz.prog W = .ok (.tuple #[.agg #[.int .u8 0, .int .u8 0, .int .u8 0, .int .u8 0, .int .u8 0, .int .u8 0, .int .u8 0, .int .u8 0, .int .u8 0, .int .u8 0, .int .u8 0, .int .u8 0, .int .u8 0, .int .u8 0, .int .u8 0, .int .u8 0], .bool false]) W := by kernel_rfl
theorem as_120_154 (v : Value) (W : World) : (Instr.typeAssert (.iface 120 v) 20 154 true).run Tryz.prog W = .ok (.tuple #[.agg #[], .bool false]) W := by kernel_rfl
theorem as_120_120 (v : Value) (W : World) : (Instr.typeAssert (.iface 120 v) 20 120 true).run Tryz.prog W = .ok (.tuple #[v, .bool true]) W := by kernel_rfl
theorem as_n_123 (W : World) : (Instr.typeAssert .nilIface 20 123 true).run Tryz.prog W = .ok (.tuple #[.slice none 0 0, .bool false]) W := by kernel_rfl
theorem as_123_154 (v : Value) (W : World) : (Instr.typeAssert (.iface 123 v) 20 154 true).run Tryz.prog W = .ok (.tuple #[.agg #[], .bool false]) W := by kernel_rfl
theorem as_123_123 (v : Value) (W : World) : (Instr.typeAssert (.iface 123 v) 20 123 true).run Tryz.prog W = .ok (.tuple #[v, .bool true]) W := by kernel_rfl
theorem as_n_187 (W : World) : (Instr.typeAssert .nilIface 20 187 true).run Tryz.prog W = .ok (.tuple #[.nilIface, .bool false]) W := by kernel_rfl
theorem as_n_152 (W : World) : (Instr.typeAssert .nilIface 20 152 true).run Tryz.prog W = .ok (.tuple #[.map none, .bool false]) W := by kernel_rfl
theorem as_152_154 (v : Value) (W : World) : (Instr.typeAssert (.iface 152 v) 20 154 true).run Tryz.prog W = .ok (.tuple #[.agg #[], .bool false]) W := by kernel_rfl
theorem as_152_187 (v : Value) (W : World) : (Instr.typeAssert (.iface 152 v) 20 187 true).run Tryz.prog W = .ok (.tuple #[.nilIface, .bool false]) W := misses_udt (by kernel_rfl) v W
theorem as_152_152 (v : Value) (W : World) : (Instr.typeAssert (.iface 152 v) 20 152 true).run Tryz.prog W = .ok (.tuple #[v, .bool true]) W := by kernel_rfl
theorem as_n_190 (W : World) : (Instr.typeAssert .nilIface 20 190 true).run Tryz.prog W = .ok (.tuple #[.pointer none, .bool false]) W := by kernel_rfl
theorem as_n_125 (W : World) : (Instr.typeAssert .nilIface 20 125 true).run Tryz.prog W = .ok (.tuple #[.agg #[.int .i32 0, .int .i32 0, .int .i64 0], .bool false]) W := by kernel_rfl
theorem as_125_154 (v : Value) (W : World) : (Instr.typeAssert (.iface 125 v) 20 154 true).run Tryz.prog W = .ok (.tuple #[.agg #[], .bool false]) W := by kernel_rfl
theorem as_125_2 (v : Value) (W : World) : (Instr.typeAssert (.iface 125 v) 20 2 true).run Tryz.prog W = .ok (.tuple #[.int .i64 0, .bool false]) W := by kernel_rfl
theorem as_125_166 (v : Value) (W : World) : (Instr.typeAssert (.iface 125 v) 20 166 true).run Tryz.prog W = .ok (.tuple #[.int .i64 0, .bool false]) W := by kernel_rfl
theorem as_125_9 (v : Value) (W : World) : (Instr.typeAssert (.iface 125 v) 20 9 true).run Tryz.prog W = .ok (.tuple #[.string ⟨#[]⟩, .bool false]) W := by kernel_rfl
theorem as_125_125 (v : Value) (W : World) : (Instr.typeAssert (.iface 125 v) 20 125 true).run Tryz.prog W = .ok (.tuple #[v, .bool true]) W := by kernel_rfl
theorem as_i98 (v : Value) (W : World) : (Instr.typeAssert (.iface 98 v) 60 98 true).run Tryz.prog W = .ok (.tuple #[v, .bool true]) W := by kernel_rfl
theorem as_i100 (v : Value) (W : World) : (Instr.typeAssert (.iface 100 v) 60 100 false).run Tryz.prog W = .ok (v) W := by kernel_rfl
theorem as_i103 (v : Value) (W : World) : (Instr.typeAssert (.iface 103 v) 60 103 false).run Tryz.prog W = .ok (v) W := by kernel_rfl
theorem me_94_Version (c0 c1 c2 : Value) (W : World) : (method 461 94 (.agg #[c0, c1, c2]) "Version").run Tryz.prog W = .ok (261, .agg #[c0, c1, c2]) W := by kernel_rfl
theorem me_94_Type (c0 c1 c2 : Value) (W : World) : (method 461 94 (.agg #[c0, c1, c2]) "Type").run Tryz.prog W = .ok (260, .agg #[c0, c1, c2]) W := by kernel_rfl
theorem me_94_Custom (c0 c1 c2 : Value) (W : World) : (method 461 94 (.agg #[c0, c1, c2]) "Custom").run Tryz.prog W = .ok (259, .agg #[c0, c1, c2]) W := by kernel_rfl
theorem me_98_Version (c0 c1 c2 c3 c4 : Value) (W : World) : (method 461 98 (.agg #[c0, c1, c2, c3, c4]) "Version").run Tryz.prog W = .ok (261, .agg #[c0, c1, c2]) W := by kernel_rfl
theorem me_98_Type (c0 c1 c2 c3 c4 : Value) (W : World) : (method 461 98 (.agg #[c0, c1, c2, c3, c4]) "Type").run Tryz.prog W = .ok (260, .agg #[c0, c1, c2]) W := by kernel_rfl
theorem me_98_Custom (c0 c1 c2 c3 c4 : Value) (W : World) : (method 461 98 (.agg #[c0, c1, c2, c3, c4]) "Custom").run Tryz.prog W = .ok (259, .agg #[c0, c1, c2]) W := by kernel_rfl
theorem me_100_Version (c0 c1 c2 c3 : Value) (W : World) : (method 461 100 (.agg #[c0, c1, c2, c3]) "Version").run Tryz.prog W = .ok (261, .agg #[c0, c1, c2]) W := by kernel_rfl
theorem me_100_Type (c0 c1 c2 c3 : Value) (W : World) : (method 461 100 (.agg #[c0, c1, c2, c3]) "Type").run Tryz.prog W = .ok (260, .agg #[c0, c1, c2]) W := by kernel_rfl
theorem me_100_Custom (c0 c1 c2 c3 : Value) (W : World) : (method 461 100 (.agg #[c0, c1, c2, c3]) "Custom").run Tryz.prog W = .ok (259, .agg #[c0, c1, c2]) W := by kernel_rfl
theorem me_103_Version (c0 c1 c2 c3 c4 c5 : Value) (W : World) : (method 461 103 (.agg #[c0, c1, c2, c3, c4, c5]) "Version").run Tryz.prog W = .ok (261, .agg #[c0, c1, c2]) W := by kernel_rfl
theorem me_103_Type (c0 c1 c2 c3 c4 c5 : Value) (W : World) : (method 461 103 (.agg #[c0, c1, c2, c3, c4, c5]) "Type").run Tryz.prog W = .ok (260, .agg #[c0, c1, c2]) W := by kernel_rfl
theorem me_103_Custom (c0 c1 c2 c3 c4 c5 : Value) (W : World) : (method 461 103 (.agg #[c0, c1, c2, c3, c4, c5]) "Custom").run Tryz.prog W = .ok (259, .agg #[c0, c1, c2]) W := by kernel_rfl
attribute [go_sem] as_2_128 as_4_128 as_9_128 as_21_128 as_26_128 as_27_128 as_77_128 as_106_128 as_107_128 as_114_128 as_116_128 as_120_128
attribute [go_sem] as_123_128 as_125_128 as_148_128 as_151_128 as_152_128 as_n_128 as_n_154 as_n_9 as_n_27 as_9_154 as_9_9 as_27_154
attribute [go_sem] as_27_9 as_27_27 as_n_4 as_4_154 as_4_4 as_n_106 as_n_5 as_n_107 as_n_158 as_n_3 as_n_21 as_n_2
attribute [go_sem] as_n_87 as_n_75 as_n_73 as_106_154 as_106_106 as_107_154 as_107_107 as_21_154 as_21_3 as_21_87 as_21_2 as_21_73
attribute [go_sem] as_21_21 as_n_114 as_2_154 as_2_3 as_2_87 as_2_2 as_114_154 as_114_3 as_114_87 as_114_2 as_114_73 as_114_21
attribute [go_sem] as_114_75 as_114_107 as_114_158 as_114_106 as_114_5 as_114_114 as_n_77 as_77_154 as_77_77 as_n_26 as_26_154 as_26_26
attribute [go_sem] as_n_116 as_116_154 as_116_116 as_n_166 as_n_170 as_n_151 as_151_154 as_151_151 as_n_148 as_148_154 as_148_148 as_n_120
attribute [go_sem] as_n_119 as_120_154 as_120_120 as_n_123 as_123_154 as_123_123 as_n_187 as_n_152 as_152_154 as_152_187 as_152_152 as_n_190
attribute [go_sem] as_n_125 as_125_154 as_125_2 as_125_166 as_125_9 as_125_125 as_i98 as_i100 as_i103 me_94_Version me_94_Type me_94_Custom
attribute [go_sem] me_98_Version me_98_Type me_98_Custom me_100_Version me_100_Type me_100_Custom me_103_Version me_103_Type me_103_Custom
end Go.Proofs.YtammjbmfiakbnaaGreatDoor
