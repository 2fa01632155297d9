/-
  A header read back, the rest: zzHeader, ZZReadHeader, ParseHeader. Conditions: the bytes are at hand, nine of them at the least.
-/
import Derived.Test.YtammjbmfiakbnaaGreatDoorHdr
import Derived.StillTailTactics
namespace Go.Proofs.YtammjbmfiakbnaaGreatDoor
open Go.RowKit

/-- A version's byte: the version and who speaks. -/
structure Ver (x : UInt8) (v : Int) (b : Bool) : Prop where
  and7 : bits .and .u8 (x.toNat : Int) 127 = v
  and8 : (bits .and .u8 (x.toNat : Int) 128 == 128) = b
  any : x = 3 ∨ x = 4 ∨ x = 131 ∨ x = 132
  le : 0 ≤ v ∧ v ≤ 255
theorem ver_3 : Ver 3 3 false := ⟨by decide, by decide, by decide, by decide⟩
theorem ver_4 : Ver 4 4 false := ⟨by decide, by decide, by decide, by decide⟩
theorem ver_131 : Ver 131 3 true := ⟨by decide, by decide, by decide, by decide⟩
theorem ver_132 : Ver 132 4 true := ⟨by decide, by decide, by decide, by decide⟩

theorem version_any (x : UInt8) (v : Int) (b : Bool) (h : Ver x v b) (w : World) : Calls Tryz.prog 109 #[.int .u8 (x.toNat : Int)] w fun e w' => e = .returned (.int .u8 v) ∧ w' = w := by
  have h1 := h.and7
  clear h
  go_enter Tryz.func109, Tryz.ntmps109
  go_wp2_with fail
  go_ret
  exact ⟨rfl, rfl⟩
theorem response_any (x : UInt8) (v : Int) (b : Bool) (h : Ver x v b) (w : World) : Calls Tryz.prog 110 #[.int .u8 (x.toNat : Int)] w fun e w' => e = .returned (.bool b) ∧ w' = w := by
  have h1 := h.and8
  clear h
  go_enter Tryz.func110, Tryz.ntmps110
  go_wp2_with fail
  go_ret
  exact ⟨by simp [h1], rfl⟩

/-- What ZZReadHeader gives. -/
def zzV (v : Int) (b : Bool) (x1 : UInt8) (s : Int) (x4 : UInt8) (n : Int) : Value := .agg #[.int .i64 v, .bool b, byteV x1, .int .i64 s, .int .i64 (x4.toNat : Int), .int .i64 n]

set_option maxRecDepth 100000 in
set_option maxHeartbeats 3200000 in
theorem zzHeader_any (x0 x1 x4 : UInt8) (v : Int) (b : Bool) (hv : Ver x0 v b) (s n : Int) (w : World) :
    Calls Tryz.prog 75 #[hdrV x0 x1 s x4 n] w fun e w' => e = .returned (zzV v b x1 s x4 n) ∧ Ext w w' := by
  have h1 := fun W => version_any x0 v b hv W
  have h2 := fun W => response_any x0 v b hv W
  have hle := hv.le
  have hx4 := x4.toNat_lt
  have hwv : IntKind.i64.wrap v = v := IntWalk.i64_in _ (by omega)
  have hw4 : IntKind.i64.wrap (x4.toNat : Int) = (x4.toNat : Int) := IntWalk.i64_in _ (by omega)
  clear hv
  unfold hdrV byteV
  go_enter Tryz.func75, Tryz.ntmps75
  go_upto_region 1 with fail
  have hE : Ext w ((w.alloc (.cells #[.int .u8 (x0.toNat : Int), .int .u8 (x1.toNat : Int), .int .i64 s, .int .u8 (x4.toNat : Int), .int .i64 n, .slice none 0 0] 142)).alloc (.cells #[.int .i64 0, .bool false, .int .u8 0, .int .i64 0, .int .i64 0, .int .i64 0] 83)) := ((Ext.refl w).alloc _).alloc _
  have hX : Blk ((w.alloc (.cells #[.int .u8 (x0.toNat : Int), .int .u8 (x1.toNat : Int), .int .i64 s, .int .u8 (x4.toNat : Int), .int .i64 n, .slice none 0 0] 142)).alloc (.cells #[.int .i64 0, .bool false, .int .u8 0, .int .i64 0, .int .i64 0, .int .i64 0] 83)) w.heap.size 142 _ := (Blk.new w 142 _).alloc _
  have hY : Blk ((w.alloc (.cells #[.int .u8 (x0.toNat : Int), .int .u8 (x1.toNat : Int), .int .i64 s, .int .u8 (x4.toNat : Int), .int .i64 n, .slice none 0 0] 142)).alloc (.cells #[.int .i64 0, .bool false, .int .u8 0, .int .i64 0, .int .i64 0, .int .i64 0] 83)) (w.heap.size + 1) 83 _ := Blk.new' _ _ 83 _ (by simp)
  generalize ((w.alloc (.cells #[.int .u8 (x0.toNat : Int), .int .u8 (x1.toNat : Int), .int .i64 s, .int .u8 (x4.toNat : Int), .int .i64 n, .slice none 0 0] 142)).alloc (.cells #[.int .i64 0, .bool false, .int .u8 0, .int .i64 0, .int .i64 0, .int .i64 0] 83)) = W at *
  refine wp_region_still_tail 17 (by kernel_rfl) (by kernel_rfl) ?_
  replace hE : Ext w { W with drawn := W.drawn + 1 } := hE.drew
  replace hX : Blk { W with drawn := W.drawn + 1 } _ _ _ := hX.drew
  replace hY : Blk { W with drawn := W.drawn + 1 } _ _ _ := hY.drew
  generalize ({ W with drawn := W.drawn + 1 } : World) = w2 at *
  obtain ⟨q0, q1, q2, q3, q4, q5, qf⟩ := c6 hX
  obtain ⟨r0, r1, r2, r3, r4, r5, rf⟩ := c6 hY
  have HE := Lib.hid hE
  have HY := Lib.hid hY
  clear hE hX hY
  simp only [List.take_succ_cons, List.take_zero, List.drop_succ_cons, List.drop_zero]
  repeat still_step
  still_call (h1 _)
  repeat still_step
  still_call (h2 _)
  repeat still_step
  refine wpStill_nil ?_
  go_wp2_with fail
  generalize hWf : World.setCell _ ⟨w.heap.size + 1, 5, none⟩ _ = Wf
  have hHf : Blk Wf (w.heap.size + 1) 83 #[.int .i64 v, .bool b, byteV x1, .int .i64 s, .int .i64 (x4.toNat : Int), .int .i64 n] := by
    rw [← hWf]
    exact Blk.set_ (Blk.set_ (Blk.set_ (Blk.set_ (Blk.set_ (Blk.set_ HY.out 0 _) 1 _) 2 _) 3 _) 4 _) 5 _
  have hJ : Ext w Wf := by
    rw [← hWf]
    exact (((((HE.out.setCell (by simp) _).setCell (by simp) _).setCell (by simp) _).setCell (by simp) _).setCell (by simp) _).setCell (by simp) _
  clear hWf
  obtain ⟨s0, s1, s2, s3, s4, s5, _⟩ := c6 hHf
  exact bodyPost_ret (by simp [results, Tryz.results75, go_sem, s0, s1, s2, s3, s4, s5]; rfl) rfl ⟨rfl, hJ⟩

/-- 'append([]byte(nil), b...)', one byte or more. -/
theorem append_copy {w : World} {l : List UInt8} {b o c : Nat} (hn : l ≠ []) (hl : l.length ≤ 1099511627776) (hcell : ∀ j u, (l.map byteV)[j]? = some u → w.cell? ⟨b, o + j, none⟩ = some u) :
    ∃ cap xs, (∀ ty, (Builtin.append_ #[27, 27] ty #[.slice none 0 0, .slice (some ⟨b, o, none⟩) l.length c]).run Tryz.prog w = .ok (.slice (some ⟨w.heap.size, 0, none⟩) l.length cap) (w.drew.alloc (.cells (l.map byteV ++ xs).toArray 5))) ∧ l.length ≤ cap := by
  obtain ⟨i0, hi0, hz0, hz1, hz2⟩ := info_parts info5
  have h1 : 0 < l.length := List.length_pos_iff.2 hn
  refine ⟨grownCap w l.length 0 5, (Builtin.zeroCells (Value.int .u8 0).cells (grownCap w l.length 0 5 - l.length)).toList, fun ty => ?_, ?_⟩
  · have := run_append_nil (P := Tryz.prog) (w := w) 27 ty 5 i0 _ Tryz.underlying27 hi0 hz0 ⟨b, o, none⟩ l.length c (l.map byteV) (by simp [hz1]) (fun j v hj => by
      have hadd : (⟨b, o, none⟩ : Addr).add j = ⟨b, o + j, none⟩ := by unfold Addr.add; split <;> simp_all
      rw [hadd]; exact hcell j v hj) h1 (by omega) (by rw [hz2]; omega)
    rw [this]
    generalize Builtin.zeroCells (Value.int .u8 0).cells (grownCap w l.length 0 5 - l.length) = Z
    rw [show (l.map byteV).toArray ++ Z = (l.map byteV ++ Z.toList).toArray by simp]
  · exact grownCap_ge _ _ _ _

end Go.Proofs.YtammjbmfiakbnaaGreatDoor
