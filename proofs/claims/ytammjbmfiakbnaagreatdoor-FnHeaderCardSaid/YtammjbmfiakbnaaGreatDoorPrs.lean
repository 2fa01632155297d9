/-
  impl.ParseHeader reads a header's numbers back. Conditions: nine bytes or more, a version of 3 or 4.
-/
import Derived.Test.YtammjbmfiakbnaaGreatDoorZzr
import Derived.ChangeAlike
namespace Go.Proofs.YtammjbmfiakbnaaGreatDoor
open Go.RowKit
/-- Only the blocks H, I, K, and new ones, may differ. -/
def Three (w w' : World) (H I K : Nat) : Prop :=
  w'.os = w.os ∧ w'.tape = w.tape ∧ w'.output = w.output ∧ w.heap.size ≤ w'.heap.size ∧ ∀ k, k < w.heap.size → k ≠ H → k ≠ I → k ≠ K → w'.heap[k]? = w.heap[k]?

theorem Three.setH {w w1 : World} {H I K : Nat} (h : Three w w1 H I K) (i : Nat) (u : Value) : Three w (w1.setCell ⟨H, i, none⟩ u) H I K :=
  ⟨h.1, h.2.1, h.2.2.1, by simpa [World.setCell] using h.2.2.2.1, fun k hk h1 h2 h3 => (Below.heap_setCell w1 ⟨H, i, none⟩ u k h1).trans (h.2.2.2.2 k hk h1 h2 h3)⟩
theorem Three.setI {w w1 : World} {H I K : Nat} (h : Three w w1 H I K) (i : Nat) (u : Value) : Three w (w1.setCell ⟨I, i, none⟩ u) H I K :=
  ⟨h.1, h.2.1, h.2.2.1, by simpa [World.setCell] using h.2.2.2.1, fun k hk h1 h2 h3 => (Below.heap_setCell w1 ⟨I, i, none⟩ u k h2).trans (h.2.2.2.2 k hk h1 h2 h3)⟩
theorem Three.setK {w w1 : World} {H I K : Nat} (h : Three w w1 H I K) (i : Nat) (u : Value) : Three w (w1.setCell ⟨K, i, none⟩ u) H I K :=
  ⟨h.1, h.2.1, h.2.2.1, by simpa [World.setCell] using h.2.2.2.1, fun k hk h1 h2 h3 => (Below.heap_setCell w1 ⟨K, i, none⟩ u k h3).trans (h.2.2.2.2 k hk h1 h2 h3)⟩

/-- What impl.ParseHeader gives. -/
def implV (v : Int) (b : Bool) (x1 : UInt8) (s : Int) (x4 : UInt8) (n : Int) : Value := .agg #[.int .i64 v, .int .i64 (x1.toNat : Int), .int .i64 s, .int .i64 (x4.toNat : Int), .int .i64 n, .bool b]

set_option maxRecDepth 100000 in
set_option maxHeartbeats 3200000 in
theorem parse36_any (l rest : List UInt8) (x0 x1 x2 x3 x4 x5 x6 x7 x8 : UInt8) (hl : l = x0 :: x1 :: x2 :: x3 :: x4 :: x5 :: x6 :: x7 :: x8 :: rest) (hlb : l.length ≤ 1000000) (v : Int) (b : Bool) (hv : Ver x0 v b) (hx2 : x2.toNat < 128) (hx5 : x5.toNat < 128) (ss nn : Int) (hss : (x2.toNat : Int) * 256 + x3.toNat = ss) (hnn : (x5.toNat : Int) * 16777216 + x6.toNat * 65536 + x7.toNat * 256 + x8.toNat = nn) (w : World)
    (B0 o c : Nat) (hcell : ∀ j u, (l.map byteV)[j]? = some u → w.cell? ⟨B0, o + j, none⟩ = some u) (hB0 : B0 < w.heap.size) (D H I K : Nat) (hD : Blk w D 27 #[.slice (some ⟨B0, o, none⟩) l.length c])
    (hH : Blk w H 49 #[.int .i64 0, .int .i64 0, .int .i64 0, .int .i64 0, .int .i64 0, .bool false]) (hI : Blk w I 3 #[.int .i64 0]) (hK : Blk w K 4 #[.bool false]) :
    Calls Tryz.prog 36 #[.pointer (some ⟨D, 0, none⟩), .pointer (some ⟨H, 0, none⟩), .pointer (some ⟨I, 0, none⟩), .pointer (some ⟨K, 0, none⟩)] w fun e w' =>
      e = .returned (.tuple #[]) ∧ Blk w' H 49 #[.int .i64 v, .int .i64 (x1.toNat : Int), .int .i64 ss, .int .i64 (x4.toNat : Int), .int .i64 nn, .bool b] ∧
        Blk w' I 3 #[.int .i64 9] ∧ Blk w' K 4 #[.bool true] ∧ Three w w' H I K := by
  have h1 := zzRead_any l rest x0 x1 x2 x3 x4 x5 x6 x7 x8 hl hlb v b hv hx2 hx5 ss nn hss hnn w B0 o c hcell hB0
  have hHI : H ≠ I := Blk.ne hH hI (by decide)
  have hHK : H ≠ K := Blk.ne hH hK (by decide)
  have hIK : I ≠ K := Blk.ne hI hK (by decide)
  have hlH := hH.lt
  have hlI := hI.lt
  have hlK := hK.lt
  obtain ⟨d0, d1⟩ := hD.c1
  have hwx : IntKind.i64.wrap (x1.toNat : Int) = (x1.toNat : Int) := IntWalk.i64_in _ (by have := x1.toNat_lt; omega)
  have HH := Lib.hid hH
  have HI := Lib.hid hI
  have HK := Lib.hid hK
  clear hH hI hK hD hcell hl hlb hss hnn
  unfold zzV byteV at h1
  go_enter Tryz.func36, Tryz.ntmps36
  go_wp2_with fail
  refine h1.mono ?_
  rintro e w1 ⟨rfl, he⟩
  have hH1 := HH.out.ext he
  have hI1 := HI.out.ext he
  have hK1 := HK.out.ext he
  have hX := Blk.new w1 83 #[.int .i64 v, .bool b, .int .u8 (x1.toNat : Int), .int .i64 ss, .int .i64 (x4.toNat : Int), .int .i64 nn]
  replace hH1 := hH1.alloc (.cells #[.int .i64 v, .bool b, .int .u8 (x1.toNat : Int), .int .i64 ss, .int .i64 (x4.toNat : Int), .int .i64 nn] 83)
  replace hI1 := hI1.alloc (.cells #[.int .i64 v, .bool b, .int .u8 (x1.toNat : Int), .int .i64 ss, .int .i64 (x4.toNat : Int), .int .i64 nn] 83)
  replace hK1 := hK1.alloc (.cells #[.int .i64 v, .bool b, .int .u8 (x1.toNat : Int), .int .i64 ss, .int .i64 (x4.toNat : Int), .int .i64 nn] 83)
  have hsz := he.size
  have he2 := he.alloc (.cells #[.int .i64 v, .bool b, .int .u8 (x1.toNat : Int), .int .i64 ss, .int .i64 (x4.toNat : Int), .int .i64 nn] 83)
  have hneH : w1.heap.size ≠ H := by omega
  have hneI : w1.heap.size ≠ I := by omega
  have hneK : w1.heap.size ≠ K := by omega
  clear h1 d0 d1 he
  go_upto_region 2 with fail
  generalize w1.alloc (.cells #[.int .i64 v, .bool b, .int .u8 (x1.toNat : Int), .int .i64 ss, .int .i64 (x4.toNat : Int), .int .i64 nn] 83) = W2 at *
  generalize w1.heap.size = z at *
  obtain ⟨p0, p1, p2, p3, p4, p5, _⟩ := c6 hX
  obtain ⟨q0, q1, q2, q3, q4, q5, qf⟩ := c6 hH1
  obtain ⟨i0, if0⟩ := hI1.c1
  obtain ⟨k0, kf0⟩ := hK1.c1
  have Hh := Lib.hid hH1
  have Hi := Lib.hid hI1
  have Hk := Lib.hid hK1
  have He := Lib.hid he2
  clear hH1 hI1 hK1 he2 hX
  go_wp2_with fail
  generalize hWf : World.setCell _ ⟨K, 0, none⟩ _ = Wf
  have hHf : Blk Wf H 49 #[.int .i64 v, .int .i64 (x1.toNat : Int), .int .i64 ss, .int .i64 (x4.toNat : Int), .int .i64 nn, .bool b] := by
    rw [← hWf]
    exact Blk.off (Blk.off (Blk.set_ (Blk.set_ (Blk.set_ (Blk.set_ (Blk.set_ (Blk.set_ Hh.out 0 _) 1 _) 2 _) 3 _) 4 _) 5 _) hHI _) hHK _
  have hIf : Blk Wf I 3 #[.int .i64 9] := by
    rw [← hWf]
    exact Blk.off (Blk.set_ (Blk.off (Blk.off (Blk.off (Blk.off (Blk.off (Blk.off Hi.out hHI.symm _) hHI.symm _) hHI.symm _) hHI.symm _) hHI.symm _) hHI.symm _) 0 _) hIK _
  have hKf : Blk Wf K 4 #[.bool true] := by
    rw [← hWf]
    exact Blk.set_ (Blk.off (Blk.off (Blk.off (Blk.off (Blk.off (Blk.off (Blk.off Hk.out hHK.symm _) hHK.symm _) hHK.symm _) hHK.symm _) hHK.symm _) hHK.symm _) hIK.symm _) 0 _
  have hT : Three w Wf H I K := by
    rw [← hWf]
    have t0 : Three w W2 H I K := ⟨He.out.os, He.out.tape, He.out.output, He.out.size, fun k hk _ _ _ => He.out.block k hk⟩
    exact (((((((t0.setH _ _).setH _ _).setH _ _).setH _ _).setH _ _).setH _ _).setI _ _).setK _ _
  clear hWf
  go_end0
  exact ⟨rfl, hHf, hIf, hKf, hT⟩

set_option maxRecDepth 100000 in
set_option maxHeartbeats 3200000 in
theorem parse_any (l rest : List UInt8) (x0 x1 x2 x3 x4 x5 x6 x7 x8 : UInt8) (hl : l = x0 :: x1 :: x2 :: x3 :: x4 :: x5 :: x6 :: x7 :: x8 :: rest) (hlb : l.length ≤ 1000000) (v : Int) (b : Bool) (hv : Ver x0 v b) (hx2 : x2.toNat < 128) (hx5 : x5.toNat < 128) (ss nn : Int) (hss : (x2.toNat : Int) * 256 + x3.toNat = ss) (hnn : (x5.toNat : Int) * 16777216 + x6.toNat * 65536 + x7.toNat * 256 + x8.toNat = nn) (w : World)
    (r : Value) (hr : Out l r w) : Calls Tryz.prog 16 #[r] w fun e w' => e = .returned (.tuple #[implV v b x1 ss x4 nn, .int .i64 9, .bool true]) ∧ Ext w w' := by
  obtain ⟨B0, o, c, rfl, hc, hB0, hcell⟩ := hr.form
  clear hr
  have hmf : ∀ (fn : Fn) (first cap : Array Value) (w : World), (Instr.makeFunc fn first cap).run Tryz.prog w = .ok (.func fn first cap) w := fun _ _ _ _ => rfl
  have Hcell := Lib.hid hcell
  have Hl := Lib.hid hl
  have Hss := Lib.hid hss
  have Hnn := Lib.hid hnn
  clear hcell hl hss hnn
  go_enter Tryz.func16, Tryz.ntmps16
  go_wp2_with fail
  generalize hW : World.alloc _ (Obj.cells #[Value.bool false] 4) = W
  have hE : Ext w W := by
    rw [← hW]
    exact ((((Ext.refl w).alloc _).alloc _).alloc _).alloc _
  have hD : Blk W w.heap.size 27 #[.slice (some ⟨B0, o, none⟩) l.length c] := by
    rw [← hW]
    exact (((Blk.new w 27 _).alloc _).alloc _).alloc _
  have hH : Blk W (w.heap.size + 1) 49 #[.int .i64 0, .int .i64 0, .int .i64 0, .int .i64 0, .int .i64 0, .bool false] := by
    rw [← hW]
    exact ((Blk.new' _ _ 49 _ (by simp)).alloc _).alloc _
  have hI : Blk W (w.heap.size + 1 + 1) 3 #[.int .i64 0] := by
    rw [← hW]
    exact (Blk.new' _ _ 3 _ (by simp)).alloc _
  have hK : Blk W (w.heap.size + 1 + 1 + 1) 4 #[.bool false] := by
    rw [← hW]
    exact Blk.new' _ _ 4 _ (by simp)
  have hsz : W.heap.size = w.heap.size + 1 + 1 + 1 + 1 := by
    rw [← hW]
    simp
  clear hW
  have hF := Blk.new W 4 #[.bool false]
  have hEF : Ext W (W.alloc (.cells #[.bool false] 4)) := (Ext.refl W).alloc _
  have hsF : (W.alloc (.cells #[.bool false] 4)).heap.size = W.heap.size + 1 := by simp
  have h1 := parse36_any l rest x0 x1 x2 x3 x4 x5 x6 x7 x8 Hl.out hlb v b hv hx2 hx5 ss nn Hss.out Hnn.out (W.alloc (.cells #[.bool false] 4)) B0 o c (fun j u hu => hEF.cellS (hE.cellS (Hcell.out j u hu))) (by omega)
    w.heap.size (w.heap.size + 1) (w.heap.size + 1 + 1) (w.heap.size + 1 + 1 + 1) (hD.ext hEF) (hH.ext hEF) (hI.ext hEF) (hK.ext hEF)
  have h2 := quietly_36 _ W (fun w1 => Blk w1 (w.heap.size + 1) 49 #[.int .i64 v, .int .i64 (x1.toNat : Int), .int .i64 ss, .int .i64 (x4.toNat : Int), .int .i64 nn, .bool b] ∧ Blk w1 (w.heap.size + 1 + 1) 3 #[.int .i64 9] ∧ Blk w1 (w.heap.size + 1 + 1 + 1) 4 #[.bool true] ∧ Ext w w1 ∧ W.heap.size < w1.heap.size)
    W.heap.size rfl (h1.mono (by
      rintro e w1 ⟨rfl, y1, y2, y3, y4⟩
      refine ⟨rfl, ⟨y1, y2, y3, ⟨y4.1.trans hE.os, y4.2.1.trans hE.tape, y4.2.2.1.trans hE.output, ?_, fun k hk => ?_⟩, ?_⟩, ?_⟩
      · have := y4.2.2.2.1
        omega
      · rw [y4.2.2.2.2 k (by omega) (by omega) (by omega) (by omega), hEF.block k (by omega), hE.block k hk]
      · have := y4.2.2.2.1
        omega
      · exact (y4.2.2.2.2 _ (by omega) (by omega) (by omega) (by omega)).trans hF))
  clear h1 hD hH hI hK hF hEF hsF hE hv
  refine h2.mono ?_
  rintro e w2 ⟨rfl, w1, ⟨y1, y2, y3, y4, y5⟩, rfl⟩
  replace y1 := y1.off (b := W.heap.size) (o := 0) (by omega) (.bool true)
  replace y2 := y2.off (b := W.heap.size) (o := 0) (by omega) (.bool true)
  replace y3 := y3.off (b := W.heap.size) (o := 0) (by omega) (.bool true)
  replace y4 := y4.setCell (p := ⟨W.heap.size, 0, none⟩) (by simp; omega) (.bool true)
  generalize w1.setCell ⟨W.heap.size, 0, none⟩ (.bool true) = W2 at *
  obtain ⟨q0, q1, q2, q3, q4, q5, qf⟩ := c6 y1
  obtain ⟨i0, if0⟩ := y2.c1
  obtain ⟨k0, kf0⟩ := y3.c1
  have Y1 := Lib.hid y1
  have Y2 := Lib.hid y2
  have Y3 := Lib.hid y3
  have Y4 := Lib.hid y4
  clear y1 y2 y3 y4 y5 h2 hsz
  go_wp2_with fail
  go_region
  go_wp2_with fail
  generalize hWf : World.drew (World.setCell _ ⟨w.heap.size + 1 + 1 + 1, 0, none⟩ _) = Wf
  have hHf : Blk Wf (w.heap.size + 1) 49 #[.int .i64 v, .int .i64 (x1.toNat : Int), .int .i64 ss, .int .i64 (x4.toNat : Int), .int .i64 nn, .bool b] := by
    rw [← hWf]
    exact Blk.drew (Blk.off (Blk.off (Blk.set_ (Blk.set_ (Blk.set_ (Blk.set_ (Blk.set_ (Blk.set_ Y1.out 0 _) 1 _) 2 _) 3 _) 4 _) 5 _) (by omega) _) (by omega) _)
  have hIf : Blk Wf (w.heap.size + 1 + 1) 3 #[.int .i64 9] := by
    rw [← hWf]
    exact Blk.drew (Blk.off (Blk.set_ (Blk.off (Blk.off (Blk.off (Blk.off (Blk.off (Blk.off Y2.out (by omega) _) (by omega) _) (by omega) _) (by omega) _) (by omega) _) (by omega) _) 0 _) (by omega) _)
  have hKf : Blk Wf (w.heap.size + 1 + 1 + 1) 4 #[.bool true] := by
    rw [← hWf]
    exact Blk.drew (Blk.set_ (Blk.off (Blk.off (Blk.off (Blk.off (Blk.off (Blk.off (Blk.off Y3.out (by omega) _) (by omega) _) (by omega) _) (by omega) _) (by omega) _) (by omega) _) (by omega) _) 0 _)
  have hJ : Ext w Wf := by
    rw [← hWf]
    exact Ext.drew ((((((((Y4.out.setCell (by simp) _).setCell (by simp) _).setCell (by simp) _).setCell (by simp) _).setCell (by simp) _).setCell (by simp) _).setCell (by simp; omega) _).setCell (by simp; omega) _)
  clear hWf
  obtain ⟨s0, s1, s2, s3, s4, s5, _⟩ := c6 hHf
  obtain ⟨t0, _⟩ := hIf.c1
  obtain ⟨u0, _⟩ := hKf.c1
  exact bodyPost_ret (by simp [results, Tryz.results16, go_sem, s0, s1, s2, s3, s4, s5, t0, u0]; rfl) rfl ⟨rfl, hJ⟩
end Go.Proofs.YtammjbmfiakbnaaGreatDoor
