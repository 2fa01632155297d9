/-
  ZZReadHeader. Conditions: nine bytes or more.
-/
import Derived.Test.YtammjbmfiakbnaaGreatDoorPar
import Derived.Deep.RegionLaw
namespace Go.Proofs.YtammjbmfiakbnaaGreatDoor
open Go.RowKit
set_option maxRecDepth 100000 in
set_option maxHeartbeats 64000000 in
theorem zzRead_any (l rest : List UInt8) (x0 x1 x2 x3 x4 x5 x6 x7 x8 : UInt8) (hl : l = x0 :: x1 :: x2 :: x3 :: x4 :: x5 :: x6 :: x7 :: x8 :: rest) (hlb : l.length ≤ 1000000) (v : Int) (b : Bool) (hv : Ver x0 v b) (hx2 : x2.toNat < 128) (hx5 : x5.toNat < 128) (ss nn : Int) (hss : (x2.toNat : Int) * 256 + x3.toNat = ss) (hnn : (x5.toNat : Int) * 16777216 + x6.toNat * 65536 + x7.toNat * 256 + x8.toNat = nn) (w : World)
    (B0 o c : Nat) (hcell : ∀ j u, (l.map byteV)[j]? = some u → w.cell? ⟨B0, o + j, none⟩ = some u) (hB0 : B0 < w.heap.size) :
    Calls Tryz.prog 37 #[.slice (some ⟨B0, o, none⟩) l.length c] w fun e w' =>
      e = .returned (.tuple #[zzV v b x1 ss x4 nn, .int .i64 9, .nilIface]) ∧ Ext w w' := by
  have hcell1 : ∀ j u, (l.map byteV)[j]? = some u → (w.alloc (.cells #[.int .i64 0, .bool false, .int .u8 0, .int .i64 0, .int .i64 0, .int .i64 0] 83)).cell? ⟨B0, o + j, none⟩ = some u := fun j u hu => ((Ext.refl w).alloc _).cellS (hcell j u hu)
  obtain ⟨cap, xs, hap, hcap⟩ := append_copy (c := c) (by rw [hl]; simp) (by omega) hcell1
  have hmk : ∀ W : World, (Instr.makeSlice 27 (.int .i64 9) (.int .i64 9)).run Tryz.prog W = .ok (.slice (some ⟨W.heap.size, 0, none⟩) 9 9) (W.alloc (.cells (List.replicate 9 (Value.int .u8 0)).toArray 5)) := fun _ => by kernel_rfl
  have Hc := Lib.hid hcell
  have Hl := Lib.hid hl
  have Hss := Lib.hid hss
  have Hnn := Lib.hid hnn
  clear hcell hcell1 hl hss hnn
  go_enter Tryz.func37, Tryz.ntmps37
  go_wp2_with (first | (at_builtin; refine wpList_append_eq rfl _ _ 27 27 rfl _ _ rfl rfl hap ?_))
  generalize hW : World.drew _ = W3
  have hE3 : Ext w W3 := by
    rw [← hW]
    exact (((((Ext.refl w).alloc _).alloc _).alloc _).alloc _).drew
  have hP3 : Blk W3 (w.heap.size + 1 + 1 + 1) 5 (List.replicate 9 (Value.int .u8 0)).toArray := by
    rw [← hW]
    exact Blk.new' _ _ 5 _ (by simp)
  have hZ3 : Blk W3 w.heap.size 83 #[.int .i64 0, .bool false, .int .u8 0, .int .i64 0, .int .i64 0, .int .i64 0] := by
    rw [← hW]
    exact (((Blk.new w 83 _).alloc _).alloc _).alloc _
  have hS3 : Src W3 (w.heap.size + 1 + 1) (w.heap.size + 1) l := by
    have hd : Blk W3 (w.heap.size + 1) 5 (l.map byteV ++ xs).toArray := by
      rw [← hW]
      exact ((Blk.new' _ _ 5 _ (by simp)).alloc _).alloc _
    refine ⟨0, cap, ?_, hcap, by omega, hd.lt, fun j u hu => ?_⟩
    · rw [← hW]
      exact (Blk.new' _ _ 138 _ (by simp)).alloc _
    · rw [hd.cell]
      have hj := (List.getElem?_eq_some_iff.1 hu).1
      simp only [Nat.zero_add, List.getElem?_toArray]
      rw [List.getElem?_append_left hj, hu]
  clear hW hap
  rw [Hl.out] at hS3
  have h1 := readHeader_any (w.heap.size + 1 + 1) (w.heap.size + 1) (w.heap.size + 1 + 1 + 1) x0 x1 x2 x3 x4 x5 x6 x7 x8 rest hv.any hx2 hx5 (by omega) W3 hS3 hP3
  rw [Hss.out, Hnn.out] at h1
  have HE3 := Lib.hid hE3
  have HZ3 := Lib.hid hZ3
  have h3 := hP3.lt
  clear hE3 hP3 hZ3 hS3
  refine h1.mono ?_
  rintro e w1 ⟨rfl, hs1, hf1⟩
  clear h1
  unfold hdrV byteV
  obtain ⟨o1, c1, hB1, _⟩ := id hs1
  have hZ1 : Blk w1 w.heap.size 83 #[.int .i64 0, .bool false, .int .u8 0, .int .i64 0, .int .i64 0, .int .i64 0] := (hf1.2.2.2.2 _ (by omega) (by omega) (by omega)).trans HZ3.out
  have hE1 : Ext w w1 := ⟨hf1.1.trans HE3.out.os, hf1.2.1.trans HE3.out.tape, hf1.2.2.1.trans HE3.out.output, Nat.le_trans HE3.out.size hf1.2.2.2.1, fun k hk => (hf1.2.2.2.2 k (by omega) (by omega) (by omega)).trans (HE3.out.block k hk)⟩
  have hsz := hf1.2.2.2.1
  clear hs1 hf1 HE3 HZ3
  obtain ⟨b0, bf⟩ := hB1.c1
  obtain ⟨z0, z1, z2, z3, z4, z5, zf⟩ := c6 hZ1
  have hBl := hB1.lt
  have HB1 := Lib.hid hB1
  have HZ1 := Lib.hid hZ1
  have HE1 := Lib.hid hE1
  clear hB1 hZ1 hE1
  go_upto_region 5 with fail
  have hE5 : Ext w (w1.alloc (.cells #[.int .u8 (x0.toNat : Int), .int .u8 (x1.toNat : Int), .int .i64 ss, .int .u8 (x4.toNat : Int), .int .i64 nn, .slice none 0 0] 142)) := HE1.out.alloc _
  have hX5 := Blk.new w1 142 #[.int .u8 (x0.toNat : Int), .int .u8 (x1.toNat : Int), .int .i64 ss, .int .u8 (x4.toNat : Int), .int .i64 nn, .slice none 0 0]
  have hB5 := HB1.out.alloc (.cells #[.int .u8 (x0.toNat : Int), .int .u8 (x1.toNat : Int), .int .i64 ss, .int .u8 (x4.toNat : Int), .int .i64 nn, .slice none 0 0] 142)
  have hZ5 := HZ1.out.alloc (.cells #[.int .u8 (x0.toNat : Int), .int .u8 (x1.toNat : Int), .int .i64 ss, .int .u8 (x4.toNat : Int), .int .i64 nn, .slice none 0 0] 142)
  generalize w1.alloc (.cells #[.int .u8 (x0.toNat : Int), .int .u8 (x1.toNat : Int), .int .i64 ss, .int .u8 (x4.toNat : Int), .int .i64 nn, .slice none 0 0] 142) = W5 at *
  generalize w1.heap.size = h at *
  clear b0 bf z0 z1 z2 z3 z4 z5 zf HB1 HZ1 HE1
  have hz := fun W => zzHeader_any x0 x1 x4 v b hv ss nn W
  unfold hdrV zzV byteV at hz
  have mk : ∀ w', Ext W5 w' → (w'.cell? ⟨h, 0, none⟩ = some (.int .u8 (x0.toNat : Int)) ∧ w'.cell? ⟨h, 1, none⟩ = some (.int .u8 (x1.toNat : Int)) ∧ w'.cell? ⟨h, 2, none⟩ = some (.int .i64 ss) ∧ w'.cell? ⟨h, 3, none⟩ = some (.int .u8 (x4.toNat : Int)) ∧
      w'.cell? ⟨h, 4, none⟩ = some (.int .i64 nn) ∧ w'.cell? ⟨h, 5, none⟩ = some (.slice none 0 0) ∧ w'.cell? ⟨w.heap.size + 1 + 1, 0, none⟩ = some (.slice (some ⟨w.heap.size + 1, o1, none⟩) rest.length c1) ∧
      w'.cell? ⟨w.heap.size, 0, none⟩ = some (.int .i64 0) ∧ w'.cell? ⟨w.heap.size, 1, none⟩ = some (.bool false) ∧ w'.cell? ⟨w.heap.size, 2, none⟩ = some (.int .u8 0) ∧ w'.cell? ⟨w.heap.size, 3, none⟩ = some (.int .i64 0) ∧ w'.cell? ⟨w.heap.size, 4, none⟩ = some (.int .i64 0) ∧
      w'.cell? ⟨w.heap.size, 5, none⟩ = some (.int .i64 0) ∧ (∀ i, w'.frozen? ⟨w.heap.size, i, none⟩ = false) ∧ Ext W5 w') := fun w' he => by
    obtain ⟨q0, q1, q2, q3, q4, q5, _⟩ := c6 (hX5.ext he)
    obtain ⟨z0, z1, z2, z3, z4, z5, zf⟩ := c6 (hZ5.ext he)
    exact ⟨q0, q1, q2, q3, q4, q5, (hB5.ext he).c1.1, z0, z1, z2, z3, z4, z5, zf, he⟩
  have hll : (l.length : Int) = (rest.length : Int) + 9 := by rw [Hl.out]; simp only [List.length_cons]; omega
  have hsub : IntKind.i64.wrap ((l.length : Int) - rest.length) = 9 := by rw [hll, IntWalk.i64_in _ (by omega)]; omega
  have hsub2 : wrap64 ((l.length : Int) - rest.length) = 9 := by rw [hll, IntWalk.wrap64_in _ (by omega)]; omega
  have HX5 := Lib.hid hX5
  have HZ5 := Lib.hid hZ5
  have HB5 := Lib.hid hB5
  have Hmk := Lib.hid mk
  have HE5 := Lib.hid hE5
  have Hll := Lib.hid hll
  clear hX5 hZ5 hB5 mk hE5 hll
  obtain ⟨q0, q1, q2, q3, q4, q5, p0, z0, z1, z2, z3, z4, z5, zf, _⟩ := Hmk.out W5.drew ((Ext.refl W5).drew)
  clear hv hx2 hx5 hmk
  go_region_law (go_simp; go_at_call 75; refine (hz _).mono ?_; rintro e wq ⟨rfl, hq⟩; have Hq := Lib.hid hq; obtain ⟨s0, s1, s2, s3, s4, s5, sp, t0, t1, t2, t3, t4, t5, tf, _⟩ := Hmk.out wq ((Ext.refl W5).drew.trans hq); clear hq)
  all_goals
    go_wp2_with fail
    generalize hWf : World.setCell _ ⟨w.heap.size, 5, none⟩ _ = Wf
    have hE : Ext W5 wq := (Ext.refl W5).drew.trans Hq.out
    have hHf : Blk Wf w.heap.size 83 #[.int .i64 v, .bool b, byteV x1, .int .i64 ss, .int .i64 (x4.toNat : Int), .int .i64 nn] := by
      rw [← hWf]
      exact Blk.set_ (Blk.set_ (Blk.set_ (Blk.set_ (Blk.set_ (Blk.set_ (HZ5.out.ext hE) 0 _) 1 _) 2 _) 3 _) 4 _) 5 _
    have hJ : Ext w Wf := by
      rw [← hWf]
      exact ((((((HE5.out.trans hE).setCell (Nat.le_refl _) _).setCell (Nat.le_refl _) _).setCell (Nat.le_refl _) _).setCell (Nat.le_refl _) _).setCell (Nat.le_refl _) _).setCell (Nat.le_refl _) _
    clear hWf
    obtain ⟨y0, y1, y2, y3, y4, y5, _⟩ := c6 hHf
    exact bodyPost_ret (by simp [results, Tryz.results37, go_sem, y0, y1, y2, y3, y4, y5]; rfl) rfl ⟨rfl, hJ⟩
end Go.Proofs.YtammjbmfiakbnaaGreatDoor
