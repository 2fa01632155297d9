/- A part of the proof that the card of laws.FnMarshal holds. No conditions. -/
import Derived.Test.YtammjbmfiakbnaaGreatDoorM01
import Derived.Outline
import Derived.Deep.QuietTactic
import Derived.BigQuiet
import Derived.RegionTactic
import Derived.ChangeAlike
import Derived.Lib.Hide
import Derived.Test.YtammjbmfiakbnaaGreatDoorM00
import Derived.Deep.RegionHeld3
import Derived.Deep.RegionLaw
import Derived.Deep.RegionLawGrows
import Derived.Deep.DrawnRows
import Derived.Deep.AppendLies
import Derived.IntWalk
import Derived.Deep.Cut
set_option linter.unusedSimpArgs false
set_option linter.unusedVariables false
namespace Go.Proofs.YtammjbmfiakbnaaGreatDoor
open Go.RowKit
theorem newNative (k : Int) (w : World) :
  Calls Tryz.prog 47 #[.int .u8 4, .int .i64 k, .string ⟨#[]⟩] w fun e w' => e = .returned (natT k) ∧ Ext w w' := by
 go_enter Tryz.func47, Tryz.ntmps47
 go_wp2
 exact bodyPost_ret (v := natT k) (by simp [results, Tryz.results47, go_sem]) rfl ⟨rfl, (((Ext.refl w).alloc _))⟩
set_option maxRecDepth 100000 in
theorem info_native (k : Int) (h1 : 1 ≤ k) (h2 : k ≤ 21) (h3 : k ≠ 10) (A : Option Addr) (c : Nat) (ns : Value) (w : World) :
  Calls Tryz.prog 25 #[.agg #[.int .i64 k, .slice A 0 c, ns]] w fun e w' => e = .returned (.tuple #[.iface 94 (natT k), .bool true]) ∧ Ext w w' := by
 have t1 : (k == 32) = false := by simp; omega
 have t2 : (k == 34) = false := by simp; omega
 have t3 : (k == 33) = false := by simp; omega
 have t4 : (k == 49) = false := by simp; omega
 have t5 : (k == 48) = false := by simp; omega
 have t6 : (k != 10) = true := by simp; omega
 have t7 : decide (1 ≤ k) = true := by simp; omega
 have t8 : decide (k ≤ 21) = true := by simp; omega
 go_enter Tryz.func25, Tryz.ntmps25
 go_wp2_with fail
 refine (newNative _ _).mono ?_
 rintro e w1 ⟨rfl, hx1⟩
 have hb1 := (Blk.new w 25 #[.int .i64 k, .slice A 0 c, ns]).ext hx1
 have hlt := hb1.lt
 obtain ⟨c0, c1, c2⟩ := hb1.c3
 clear hb1
 go_wp2_with fail
 refine wp_loop_once ?_
 go_wp2_with fail
 go_quiet (fail)
 go_wp2_with fail
 go_ret2
 exact ⟨rfl, ((((Ext.refl w).alloc _).trans hx1).alloc _).drewN _⟩
set_option maxRecDepth 100000 in
theorem given_19 (ks ns f s d sc mo da na kk vv : Value) (n : Int) (h0 : -32768 ≤ n) (h1 : n ≤ 32767) (w : World) :
  Calls Tryz.prog 26 #[.agg #[.int .i64 19, ks, ns], .agg #[.bool false, .int .i64 n, f, s, d, sc, mo, da, na, kk, vv]] w fun e w' => e = .returned (.tuple #[.iface 107 (.int .i16 n), .bool true]) ∧ Ext w w' := by
 go_enter Tryz.func26, Tryz.ntmps26
 go_wp2_with fail
 go_quiet (fail)
 go_wp2_with fail
 go_ret2
 exact ⟨rfl, (((Ext.refl w).alloc _).alloc _).drewN _⟩
set_option maxRecDepth 100000 in
theorem marshalSmall (x : Int) (info : Value) (w : World) :
  Calls Tryz.prog 55 #[info, .iface 107 (.int .i16 x)] w fun e w' => ∃ r, e = .returned (.tuple #[r, .nilIface]) ∧ Out [bt (x / 256), bt x] r w' ∧ Ext w w' := by
 go_enter Tryz.func55, Tryz.ntmps55
 go_wp2_with fail
 refine (encShort_any _ _).mono ?_
 rintro e w1 ⟨r, rfl, hr, hx⟩
 go_wp2_with fail
 go_ret2
 exact ⟨r, rfl, hr, hx⟩
theorem marshal_19 (x : Int) (w : World) :
  Calls Tryz.prog 27 #[.iface 94 (natT 19), .iface 107 (.int .i16 x)] w fun e w' => ∃ r, e = .returned (.tuple #[r, .nilIface]) ∧ Out [bt (x / 256), bt x] r w' ∧ Ext w w' :=
 disp_19 94 (natT 19) _ w (Out [bt (x / 256), bt x]) (fun W => me_94_Version _ _ _ W) (fun W => me_94_Type _ _ _ W) (fun W => as_107_128 _ W) (fun W _ => marshalSmall x _ W)
/-- impl.info answers with a type of which RI holds. -/
def InfoOK (tv : Value) (w : World) (RI : Value → World → Prop) : Prop :=
 ∀ W, Ext w W → Calls Tryz.prog 25 #[tv] W fun e w' => ∃ I, e = .returned (.tuple #[I, .bool true]) ∧ RI I w' ∧ Ext W w'
/-- impl.given answers with a value of which RG holds. -/
def GivenOK (tv vv : Value) (w : World) (RG : Value → World → Prop) : Prop :=
 ∀ W, Ext w W → Calls Tryz.prog 26 #[tv, vv] W fun e w' => ∃ G, e = .returned (.tuple #[G, .bool true]) ∧ RG G w' ∧ Ext W w'
/-- gocql.Marshal gives a slice of which P holds, and no error. -/
def MarshOK (w : World) (RI RG P : Value → World → Prop) : Prop :=
 ∀ I G W, Ext w W → RI I W → RG G W → Calls Tryz.prog 27 #[I, G] W fun e w' => ∃ r, e = .returned (.tuple #[r, .nilIface]) ∧ P r w' ∧ Ext W w'
/-- What holds goes on holding when memory grows. -/
def Stays (R : Value → World → Prop) : Prop := ∀ v W W', R v W → Ext W W' → R v W'
/-- What holds goes on holding when variables for slices and truth values are written. -/
def Keeps (R : Value → World → Prop) : Prop := ∀ v W W', R v W → Keep W W' → R v W'
set_option maxRecDepth 100000 in
theorem closure_any (bt_ bv bd bn bo : Nat) (t0 t1 t2 v0 v1 v2 v3 v4 v5 v6 v7 v8 v9 v10 : Value) (nul : Bool) (RI RG P : Value → World → Prop) (w0 w : World) (h0 : Hid (Ext w0 w))
  (hI : Hid (InfoOK (.agg #[t0, t1, t2]) w0 RI)) (hG : Hid (GivenOK (.agg #[t0, t1, t2]) (.agg #[v0, v1, v2, v3, v4, v5, v6, v7, v8, v9, v10]) w0 RG)) (hM : Hid (MarshOK w0 RI RG P))
  (sI : Hid (Stays RI)) (sP : Hid (Keeps P)) (hP : Hid (∀ r W, P r W → ∃ a n c, r = .slice a n c ∧ a.isNone = nul))
  (ht : Blk w bt_ 25 #[t0, t1, t2]) (hv : Blk w bv 30 #[v0, v1, v2, v3, v4, v5, v6, v7, v8, v9, v10])
  (hd : Blk w bd 27 #[.slice none 0 0]) (hn : Blk w bn 4 #[.bool false]) (ho : Blk w bo 4 #[.bool false]) (hne : bn ≠ bo) :
  Calls Tryz.prog 24 #[.pointer (some ⟨bt_, 0, none⟩), .pointer (some ⟨bv, 0, none⟩), .pointer (some ⟨bd, 0, none⟩), .pointer (some ⟨bn, 0, none⟩), .pointer (some ⟨bo, 0, none⟩)] w
   fun e w' => e = .returned (.tuple #[]) ∧ ∃ w1 r, Ext w w1 ∧ P r w1 ∧ w' = ((w1.setCell ⟨bd, 0, none⟩ r).setCell ⟨bn, 0, none⟩ (.bool nul)).setCell ⟨bo, 0, none⟩ (.bool true) := by
 obtain ⟨a0, a1, a2⟩ := ht.c3
 obtain ⟨u0, u1, u2, u3, u4, u5, u6, u7, u8, u9, u10⟩ := hv.c11
 go_enter Tryz.func24, Tryz.ntmps24
 go_wp2_with fail
 refine (hI.out _ h0.out).mono ?_
 rintro e w1 ⟨I, rfl, hI1, hx1⟩
 obtain ⟨a0', a1', a2'⟩ := (ht.ext hx1).c3
 obtain ⟨u0', u1', u2', u3', u4', u5', u6', u7', u8', u9', u10'⟩ := (hv.ext hx1).c11
 go_wp2_with fail
 refine (hG.out _ (h0.out.trans hx1)).mono ?_
 rintro e w2 ⟨G, rfl, hG2, hx2⟩
 clear a0 a1 a2 a0' a1' a2' u0 u1 u2 u3 u4 u5 u6 u7 u8 u9 u10 u0' u1' u2' u3' u4' u5' u6' u7' u8' u9' u10'
 go_wp2_with fail
 refine (hM.out _ _ _ ((h0.out.trans hx1).trans hx2) (sI.out _ _ _ hI1 hx2) hG2).mono ?_
 rintro e w3 ⟨r, rfl, hr, hx3⟩
 obtain ⟨a, n, c, hra, hnul⟩ := hP.out _ _ hr
 have hx := (hx1.trans hx2).trans hx3
 obtain ⟨d0, d1⟩ := (hd.ext hx).c1
 obtain ⟨n0, n1⟩ := (hn.ext hx).c1
 obtain ⟨o0, o1⟩ := (ho.ext hx).c1
 have hdn := (hd.ext hx).ne (hn.ext hx) (by decide)
 have hdo := (hd.ext hx).ne (ho.ext hx) (by decide)
 have hq : ∀ W : World, (binOp .eql 27 (.slice a n c) (.slice none 0 0)).run Tryz.prog W = .ok (.bool nul) W := fun W => by
  rw [← hnul]
  exact Lib.run_eql_slice_nil W 27 5 a n c 0 0 Tryz.underlying27
 rw [hra]
 have Hra := Lib.hid hra
 have Hr := Lib.hid hr
 clear hra hnul hr
 go_wp2_with fail
 go_region
 go_end0
 exact ⟨rfl, w3.drew, _, hx.drew, sP.out _ _ _ (Hra.out ▸ Hr.out) (Ext.refl _).drew.keep, rfl⟩
/-- What the closure leaves: the three variables, and whatever held. -/
def Left (w : World) (P : Value → World → Prop) (bd bn bo : Nat) (nul : Bool) (w' : World) : Prop :=
 ∃ w1 r, Ext w w1 ∧ P r w1 ∧ Blk w1 bd 27 #[.slice none 0 0] ∧ Blk w1 bn 4 #[.bool false] ∧ Blk w1 bo 4 #[.bool false] ∧ w' = ((w1.setCell ⟨bd, 0, none⟩ r).setCell ⟨bn, 0, none⟩ (.bool nul)).setCell ⟨bo, 0, none⟩ (.bool true)
/-- The same, with the variable that tells whether all went well. -/
def LeftB (w : World) (P : Value → World → Prop) (b5 bd bn bo : Nat) (nul : Bool) (w' : World) : Prop := Left w P bd bn bo nul w' ∧ Blk w' b5 4 #[.bool false]
set_option maxRecDepth 100000 in
theorem marshalTop (t0 t1 t2 v0 v1 v2 v3 v4 v5 v6 v7 v8 v9 v10 : Value) (nul : Bool) (RI RG P : Value → World → Prop) (w : World)
  (hI : Hid (InfoOK (.agg #[t0, t1, t2]) w RI)) (hG : Hid (GivenOK (.agg #[t0, t1, t2]) (.agg #[v0, v1, v2, v3, v4, v5, v6, v7, v8, v9, v10]) w RG)) (hM : Hid (MarshOK w RI RG P))
  (sI : Hid (Stays RI)) (sP : Hid (Keeps P)) (hP : Hid (∀ r W, P r W → ∃ a n c, r = .slice a n c ∧ a.isNone = nul)) :
  Calls Tryz.prog 13 #[.agg #[t0, t1, t2], .agg #[v0, v1, v2, v3, v4, v5, v6, v7, v8, v9, v10]] w
   fun e w' => ∃ r, e = .returned (.tuple #[r, .bool nul, .bool true]) ∧ P r w' ∧ Ext w w' := by
 have hmf : ∀ (fn : Fn) (first cap : Array Value) (w : World), (Instr.makeFunc fn first cap).run Tryz.prog w = .ok (.func fn first cap) w := fun _ _ _ _ => rfl
 go_enter Tryz.func13, Tryz.ntmps13
 go_wp2_with fail
 have hq : Hid (Calls Tryz.prog 24 #[.pointer (some ⟨w.heap.size, 0, none⟩), .pointer (some ⟨w.heap.size + 1, 0, none⟩), .pointer (some ⟨w.heap.size + 1 + 1, 0, none⟩), .pointer (some ⟨w.heap.size + 1 + 1 + 1, 0, none⟩), .pointer (some ⟨w.heap.size + 1 + 1 + 1 + 1, 0, none⟩)]
   ((((((w.alloc (.cells #[t0, t1, t2] 25)).alloc (.cells #[v0, v1, v2, v3, v4, v5, v6, v7, v8, v9, v10] 30)).alloc (.cells #[.slice none 0 0] 27)).alloc (.cells #[.bool false] 4)).alloc (.cells #[.bool false] 4)).alloc (.cells #[.bool false] 4))
   fun e w' => e = .returned (.tuple #[]) ∧ LeftB w P (w.heap.size + 1 + 1 + 1 + 1 + 1) (w.heap.size + 1 + 1) (w.heap.size + 1 + 1 + 1) (w.heap.size + 1 + 1 + 1 + 1) nul w' ∧ Blk w' (w.heap.size + 1 + 1 + 1 + 1 + 1) 4 #[.bool false]) := by
  have hw0 : Ext w ((((((w.alloc (.cells #[t0, t1, t2] 25)).alloc (.cells #[v0, v1, v2, v3, v4, v5, v6, v7, v8, v9, v10] 30)).alloc (.cells #[.slice none 0 0] 27)).alloc (.cells #[.bool false] 4)).alloc (.cells #[.bool false] 4)).alloc (.cells #[.bool false] 4)) :=
   ((((((Ext.refl w).alloc _).alloc _).alloc _).alloc _).alloc _).alloc _
  have ht := (((((Blk.new w 25 #[t0, t1, t2]).alloc (.cells #[v0, v1, v2, v3, v4, v5, v6, v7, v8, v9, v10] 30)).alloc (.cells #[.slice none 0 0] 27)).alloc (.cells #[.bool false] 4)).alloc (.cells #[.bool false] 4)).alloc (.cells #[.bool false] 4)
  have hv := ((((Blk.new' (w.alloc (.cells #[t0, t1, t2] 25)) (w.heap.size + 1) 30 #[v0, v1, v2, v3, v4, v5, v6, v7, v8, v9, v10] (by simp)).alloc (.cells #[.slice none 0 0] 27)).alloc (.cells #[.bool false] 4)).alloc (.cells #[.bool false] 4)).alloc (.cells #[.bool false] 4)
  have hd := (((Blk.new' ((w.alloc (.cells #[t0, t1, t2] 25)).alloc (.cells #[v0, v1, v2, v3, v4, v5, v6, v7, v8, v9, v10] 30)) (w.heap.size + 1 + 1) 27 #[.slice none 0 0] (by simp)).alloc (.cells #[.bool false] 4)).alloc (.cells #[.bool false] 4)).alloc (.cells #[.bool false] 4)
  have hn := ((Blk.new' (((w.alloc (.cells #[t0, t1, t2] 25)).alloc (.cells #[v0, v1, v2, v3, v4, v5, v6, v7, v8, v9, v10] 30)).alloc (.cells #[.slice none 0 0] 27)) (w.heap.size + 1 + 1 + 1) 4 #[.bool false] (by simp)).alloc (.cells #[.bool false] 4)).alloc (.cells #[.bool false] 4)
  have ho := (Blk.new' ((((w.alloc (.cells #[t0, t1, t2] 25)).alloc (.cells #[v0, v1, v2, v3, v4, v5, v6, v7, v8, v9, v10] 30)).alloc (.cells #[.slice none 0 0] 27)).alloc (.cells #[.bool false] 4)) (w.heap.size + 1 + 1 + 1 + 1) 4 #[.bool false] (by simp)).alloc (.cells #[.bool false] 4)
  have h5 := Blk.new' (((((w.alloc (.cells #[t0, t1, t2] 25)).alloc (.cells #[v0, v1, v2, v3, v4, v5, v6, v7, v8, v9, v10] 30)).alloc (.cells #[.slice none 0 0] 27)).alloc (.cells #[.bool false] 4)).alloc (.cells #[.bool false] 4)) (w.heap.size + 1 + 1 + 1 + 1 + 1) 4 #[.bool false] (by simp)
  generalize ((((((w.alloc (.cells #[t0, t1, t2] 25)).alloc (.cells #[v0, v1, v2, v3, v4, v5, v6, v7, v8, v9, v10] 30)).alloc (.cells #[.slice none 0 0] 27)).alloc (.cells #[.bool false] 4)).alloc (.cells #[.bool false] 4)).alloc (.cells #[.bool false] 4)) = W at *
  refine (closure_any _ _ _ _ _ t0 t1 t2 v0 v1 v2 v3 v4 v5 v6 v7 v8 v9 v10 nul RI RG P w W hw0 hI hG hM sI sP hP ht hv hd hn ho (by omega)).mono ?_
  rintro e w' ⟨he, w1, r, hx, hr, rfl⟩
  have h6 := (((h5.ext hx).off (b := w.heap.size + 1 + 1) (o := 0) (by omega) r).off (b := w.heap.size + 1 + 1 + 1) (o := 0) (by omega) (.bool nul)).off (b := w.heap.size + 1 + 1 + 1 + 1) (o := 0) (by omega) (.bool true)
  exact ⟨he, ⟨⟨w1, r, hw0.trans hx, hr, hd.ext hx, hn.ext hx, ho.ext hx, rfl⟩, h6⟩, h6⟩
 refine (quietly_24 _ _ _ _ (by simp) hq.out).mono ?_
 rintro e w1 ⟨rfl, w2, ⟨⟨w3, r, hx, hr, hbd, hbn, hbo, rfl⟩, hb5⟩, rfl⟩
 have hbd1 := hbd.set_ 0 r
 have hbn1 := hbn.off (b := w.heap.size + 1 + 1) (o := 0) (by omega) r
 have hbo1 := hbo.off (b := w.heap.size + 1 + 1) (o := 0) (by omega) r
 have hbd2 := hbd1.off (b := w.heap.size + 1 + 1 + 1) (o := 0) (by omega) (.bool nul)
 have hbn2 := hbn1.set_ 0 (.bool nul)
 have hbo2 := hbo1.off (b := w.heap.size + 1 + 1 + 1) (o := 0) (by omega) (.bool nul)
 have hbd3 := hbd2.off (b := w.heap.size + 1 + 1 + 1 + 1) (o := 0) (by omega) (.bool true)
 have hbn3 := hbn2.off (b := w.heap.size + 1 + 1 + 1 + 1) (o := 0) (by omega) (.bool true)
 have hbo3 := hbo2.set_ 0 (.bool true)
 have hbd4 := hbd3.off (b := w.heap.size + 1 + 1 + 1 + 1 + 1) (o := 0) (by omega) (.bool true)
 have hbn4 := hbn3.off (b := w.heap.size + 1 + 1 + 1 + 1 + 1) (o := 0) (by omega) (.bool true)
 have hbo4 := hbo3.off (b := w.heap.size + 1 + 1 + 1 + 1 + 1) (o := 0) (by omega) (.bool true)
 have hxf := (((hx.setCell (p := ⟨w.heap.size + 1 + 1, 0, none⟩) (by simp; omega) r).setCell (p := ⟨w.heap.size + 1 + 1 + 1, 0, none⟩) (by simp; omega) (.bool nul)).setCell (p := ⟨w.heap.size + 1 + 1 + 1 + 1, 0, none⟩) (by simp; omega) (.bool true)).setCell (p := ⟨w.heap.size + 1 + 1 + 1 + 1 + 1, 0, none⟩) (by simp; omega) (.bool true)
 have hk := ((((Ext.refl w3).keep.setCell hbd (.inl rfl) r).setCell hbn1 (.inr rfl) (.bool nul)).setCell hbo2 (.inr rfl) (.bool true)).setCell hb5 (.inr rfl) (.bool true)
 have hPf := sP.out _ _ _ hr hk
 clear hbd1 hbn1 hbo1 hbd2 hbn2 hbo2 hbd3 hbn3 hbo3 hbd hbn hbo hb5 hk hq hr hx
 obtain ⟨a, n, c, hra, hnul⟩ := hP.out _ _ hPf
 generalize (((w3.setCell ⟨w.heap.size + 1 + 1, 0, none⟩ r).setCell ⟨w.heap.size + 1 + 1 + 1, 0, none⟩ (.bool nul)).setCell ⟨w.heap.size + 1 + 1 + 1 + 1, 0, none⟩ (.bool true)).setCell ⟨w.heap.size + 1 + 1 + 1 + 1 + 1, 0, none⟩ (.bool true) = Wf at *
 have HPf := Lib.hid hPf
 clear hPf
 obtain ⟨d0, d1⟩ := hbd4.c1
 obtain ⟨n0, n1⟩ := hbn4.c1
 obtain ⟨o0, o1⟩ := hbo4.c1
 rw [hra] at d0
 have Hra := Lib.hid hra
 have Hhx := Lib.hid hxf
 have Hbd := Lib.hid hbd4
 have Hbn := Lib.hid hbn4
 have Hbo := Lib.hid hbo4
 have s0 : w.heap.size + 1 + 1 ≠ w.heap.size + 1 + 1 + 1 := by omega
 clear hra hnul hbd4 hbn4 hbo4 hxf
 go_wp2_with fail
 go_region
 go_wp2_with fail
 have q1 := Hbd.out.set_ 0 (.slice a n c)
 have q2 := Hbn.out.off (b := w.heap.size + 1 + 1) (o := 0) (by omega) (.slice a n c)
 have q3 := Hbo.out.off (b := w.heap.size + 1 + 1) (o := 0) (by omega) (.slice a n c)
 have q4 := q1.off (b := w.heap.size + 1 + 1 + 1) (o := 0) (by omega) (.bool nul)
 have q5 := q2.set_ 0 (.bool nul)
 have q6 := q3.off (b := w.heap.size + 1 + 1 + 1) (o := 0) (by omega) (.bool nul)
 have q7 := q4.off (b := w.heap.size + 1 + 1 + 1 + 1) (o := 0) (by omega) (.bool true)
 have q8 := q5.off (b := w.heap.size + 1 + 1 + 1 + 1) (o := 0) (by omega) (.bool true)
 have q9 := q6.set_ 0 (.bool true)
 have g1 := (q7.drew.c1).1
 have g2 := (q8.drew.c1).1
 have g3 := (q9.drew.c1).1
 have hk := (((Ext.refl Wf).keep.setCell Hbd.out (.inl rfl) (.slice a n c)).setCell q2 (.inr rfl) (.bool nul)).setCell q6 (.inr rfl) (.bool true)
 have hPf := sP.out _ _ _ (sP.out _ _ _ HPf.out hk) (Ext.refl _).drew.keep
 have hxf := (((Hhx.out.setCell (p := ⟨w.heap.size + 1 + 1, 0, none⟩) (by simp; omega) (.slice a n c)).setCell (p := ⟨w.heap.size + 1 + 1 + 1, 0, none⟩) (by simp; omega) (.bool nul)).setCell (p := ⟨w.heap.size + 1 + 1 + 1 + 1, 0, none⟩) (by simp; omega) (.bool true)).drew
 exact bodyPost_ret (v := .tuple #[.slice a n c, .bool nul, .bool true]) (by simp [results, Tryz.results13, go_sem, g1, g2, g3]) rfl ⟨r, by rw [Hra.out], hPf, hxf⟩
theorem Out.keeps (l : List UInt8) : Keeps (Out l) := fun _ _ _ h k => h.keep k
theorem Out.slices {l : List UInt8} (r : Value) (W : World) (h : Out l r W) : ∃ a n c, r = .slice a n c ∧ a.isNone = false := by
 obtain ⟨b, o, c, _, _, _, rfl, _⟩ := h
 exact ⟨_, _, _, rfl, rfl⟩
theorem marshalTop_19 (n : Int) (h0 : -32768 ≤ n) (h1 : n ≤ 32767) (A : Option Addr) (c : Nat) (ns f s d sc mo da na kk vv : Value) (w : World) :
  Calls Tryz.prog 13 #[.agg #[.int .i64 19, .slice A 0 c, ns], .agg #[.bool false, .int .i64 n, f, s, d, sc, mo, da, na, kk, vv]] w
   fun e w' => ∃ r, e = .returned (.tuple #[r, .bool false, .bool true]) ∧ Out [bt (n / 256), bt n] r w' ∧ Ext w w' :=
 marshalTop _ _ _ _ _ _ _ _ _ _ _ _ _ _ false (fun v _ => v = .iface 94 (natT 19)) (fun v _ => v = .iface 107 (.int .i16 n)) (Out [bt (n / 256), bt n]) w
  (fun W _ => (info_native 19 (by omega) (by omega) (by omega) A c ns W).mono fun _ _ ⟨h, k⟩ => ⟨_, h, rfl, k⟩)
  (fun W _ => (given_19 _ _ _ _ _ _ _ _ _ _ _ n h0 h1 W).mono fun _ _ ⟨h, k⟩ => ⟨_, h, rfl, k⟩)
  (fun I G W _ hI hG => by subst hI; subst hG; exact marshal_19 n W)
  (fun _ _ _ h _ => h) (Out.keeps _) (fun r W h => Out.slices r W h)
set_option maxRecDepth 100000 in
theorem works_any (w : World) : Calls Tryz.prog 12 #[] w fun e w' => e = .returned (.bool true) ∧ Ext w w' := by
 go_enter Tryz.func12, Tryz.ntmps12
 go_wp2_with fail
 refine (marshalTop_19 258 (by omega) (by omega) none 0 _ _ _ _ _ _ _ _ _ _ _).mono ?_
 rintro e w1 ⟨_, rfl, hr, hx⟩
 have hl : [bt (258 / 256), bt 258] = [1, 2] := by decide
 rw [hl] at hr
 have hby := hr.bytes
 obtain ⟨b, o, c, rfl, _, _, _⟩ := hr.form
 have hs : (convert 27 9 (.slice (some ⟨b, o, none⟩) 2 c)).run Tryz.prog w1 = .ok (.string ⟨#[1, 2]⟩) w1 := hby.toStr (P := Tryz.prog) 27 5 9 Tryz.underlying27 Tryz.underlying5 Tryz.underlying9
 clear hl hby hr
 go_wp2_with fail
 go_ret
 exact ⟨rfl, hx⟩
end Go.Proofs.YtammjbmfiakbnaaGreatDoor
namespace Go.Proofs.YtammjbmfiakbnaaGreatDoor
open Go.RowKit
attribute [local go_sem ↓] Go.wp_at_zero Go.wp_at_succ
theorem info5 : (Tryz.prog.info? 5).map (fun i => (i.zero, i.size, i.bytes)) = some (some (.int .u8 0), 1, 1) := by kernel_rfl
/-- Variable p of the writer's type holds a slice of the call's own (from block b0 on) that reads as l. -/
def Wr (w : World) (b0 p : Nat) (l : List UInt8) : Prop :=
 b0 ≤ p ∧ ∃ g c, Blk w p 70 #[.slice (some ⟨g, 0, none⟩) l.length c] ∧ w.ownsRow b0 5 1 (.slice (some ⟨g, 0, none⟩) l.length c) l.length (l.map byteV)
/-- The k lowest bytes of a number, the highest first. -/
def beN (n : Int) : Nat → List UInt8
 |0 => []
 |k + 1 => bt (n / 256 ^ k) :: beN n k
theorem beN_length (n : Int) (k : Nat) : (beN n k).length = k := by
 induction k with
 |zero => rfl
 |succ k ih => simp [beN, ih]
theorem ownsRow_ext {w w1 : World} {base : Nat} {e : TypeId} {size n : Nat} {v : Value} {xs : List Value} (h : w.ownsRow base e size v n xs) (he : Ext w w1) : w1.ownsRow base e size v n xs := by
 obtain ⟨h1, h2⟩ := h
 refine ⟨h1, ?_⟩
 rcases h2 with h2 | ⟨g, cap, cur, hv, hb, hg, r⟩
 ·exact .inl h2
 ·refine .inr ⟨g, cap, cur, hv, hb, ?_, r⟩
  rw [he.block g ?_]
  ·exact hg
  ·rcases Nat.lt_or_ge g w.heap.size with hl | hge
   ·exact hl
   ·rw [Array.getElem?_eq_none hge] at hg; cases hg
theorem Wr.ext {w w1 : World} {b0 p : Nat} {l : List UInt8} (h : Wr w b0 p l) (he : Ext w w1) : Wr w1 b0 p l := by
 obtain ⟨h0, g, c, hb, ho⟩ := h
 exact ⟨h0, g, c, hb.ext he, ownsRow_ext ho he⟩
theorem shr_i64 (n : Int) (j : Nat) (hj : j ≤ 7) (W : World) : (Op.shift .shr .i64 n .i64 (8 * (j : Int))).run Tryz.prog W = .ok (.int .i64 (n / 256 ^ j)) W := by
 have h2 : (8 * (j : Int)).toNat = 8 * j := by omega
 have h3 : min (8 * j) 64 = 8 * j := by omega
 have h4 : ¬ (8 * (j : Int)) < 0 := by omega
 have e : (2 : Int) ^ (8 * j) = 256 ^ j := by rw [Int.pow_mul]; rfl
 have e2 : (256 : Int) ^ j ≥ 0 := by rw [← e]; exact Int.pow_nonneg (by decide)
 simp [Op.shift, h4, IntKind.bits, h2, h3, e, Int.fdiv_eq_ediv_of_nonneg _ e2]
theorem append_types (ty : TypeId) (v x : Value) (w : World) : (Builtin.append_ #[70, 27] ty #[v, x]).run Tryz.prog w = (Builtin.append_ #[70, 70] ty #[v, x]).run Tryz.prog w := by
 cases v <;> simp [Builtin.append_, run_underlying Tryz.underlying70, run_underlying Tryz.underlying27]
theorem run_append_own_lies (w : World) (t : TypeId) (base : Nat) (e : TypeId) (i : TypeInfo) (z : Value) (size bytes : Nat) (ht : Tryz.prog.underlying t = some (.slice e)) (hi : Tryz.prog.info? e = some i) (hz : i.zero = some z)
  (hsize : i.size = size) (hby : i.bytes = bytes) (hzs : z.cells.size = size) (hsz : 0 < size)
  (v : Value) (n : Nat) (xs : List Value) (hown : w.ownsRow base e size v n xs)
  (ad : Addr) (m c : Nat) (news : List Value) (hl : news.length = m * size) (hnews : ∀ j u, news[j]? = some u → w.cell? (ad.add j) = some u) (h1 : ∀ u ∈ news, u.oneCell' = true)
  (hm : 0 < m) (h63 : n + m ≤ maxLen) (hbytes : (n + m) * bytes ≤ 140737488355328) (hbase : base ≤ w.heap.size) :
  ∃ g cap w', (∀ ty, (Builtin.append_ #[t, t] ty #[v, .slice (some ad) m c]).run Tryz.prog w = .ok (.slice (some ⟨g, 0, none⟩) (n + m) cap) w') ∧
   w'.ownsRow base e size (.slice (some ⟨g, 0, none⟩) (n + m) cap) (n + m) (xs ++ news) ∧ w.grownBy w' v.ownBlock ∧ (v.ownBlock = some g ∨ g = w.heap.size) ∧ g < w'.heap.size := by
 obtain ⟨g, cap, w', hr, h⟩ := run_append_lies (P := Tryz.prog) w t 0 base e i z size bytes ht hi hz hsize hby hzs hsz v n xs hown ad m c news hl hnews h1 hm h63 hbytes hbase w.heap.size rfl
 exact ⟨g, cap, w', fun ty => hr, h⟩
/-- 'append(row, b...)': the row is the call's own and not nil. -/
theorem append_wr (t : TypeId) (ht : Tryz.prog.underlying t = some (.slice 5)) {w : World} {b0 g cap : Nat} {c : List UInt8} (ho : w.ownsRow b0 5 1 (.slice (some ⟨g, 0, none⟩) c.length cap) c.length (c.map byteV)) (hb0 : b0 ≤ w.heap.size)
  {A : Option Addr} {l : List UInt8} {n k : Nat} (hv : Bytes w (.slice A n k) l) (hc : c.length ≤ 1099511627776) (hl : l.length ≤ 1099511627776) :
  ∃ gg cap1 w1, (∀ ty, (Builtin.append_ #[t, t] ty #[.slice (some ⟨g, 0, none⟩) c.length cap, .slice A n k]).run Tryz.prog w = .ok (.slice (some ⟨gg, 0, none⟩) (c.length + l.length) cap1) w1) ∧
   w1.ownsRow b0 5 1 (.slice (some ⟨gg, 0, none⟩) (c.length + l.length) cap1) (c.length + l.length) ((c ++ l).map byteV) ∧ w.grownBy w1 (some g) ∧ (some g = some gg ∨ gg = w.heap.size) := by
 obtain ⟨i0, hi0, hz0, hz1, hz2⟩ := info_parts info5
 obtain ⟨A', k', e', hk, hseg⟩ := hv
 injection e' with e1 e2 e3
 subst e1; subst e2; subst e3
 by_cases hn : l = []
 ·subst hn
  have hcc : c.length ≤ cap := by
   rcases ho.2 with ⟨h, _⟩ | ⟨g', cap', _, h, _, _, h2, _⟩
   ·cases h
   ·injection h with _ _ h; omega
  refine ⟨g, cap, w, fun ty => ?_, by simpa using ho, ⟨rfl, rfl, rfl, Nat.le_refl _, fun _ _ _ => rfl⟩, .inl rfl⟩
  cases A with
  |none => simp [Builtin.append_, run_underlying ht, sizeOf, typeInfo, hi0, Builtin.lenOf, Builtin.firstCells, hcc, storeCells]
  |some a =>
   have hf := run_firstCells_some (P := Tryz.prog) w i0.size 0 a 0 k [] (by simp) (by simp)
   simp [Builtin.append_, run_underlying ht, sizeOf, typeInfo, hi0, Builtin.lenOf, hf, hcc, storeCells]
 ·obtain ⟨b, o, rfl, hb, hcell⟩ := hseg ((map_byteV_ne l).2 hn)
  have hpos : 0 < l.length := List.length_pos_iff.2 hn
  obtain ⟨gg, cap1, w1, h1, h2, h3, h4, _⟩ := run_append_own_lies w t b0 5 i0 _ 1 1 ht hi0 hz0 hz1 hz2 rfl (by omega) (.slice (some ⟨g, 0, none⟩) c.length cap) c.length (c.map byteV) ho
   ⟨b, o, none⟩ l.length k (l.map byteV) (by simp) (fun j u hu => by
    have := hcell j u hu
    have hadd : (⟨b, o, none⟩ : Addr).add j = ⟨b, o + j, none⟩ := by unfold Addr.add; split <;> simp_all
    rw [hadd]; exact this) (by intro u hu; simp only [List.mem_map] at hu; obtain ⟨y, _, rfl⟩ := hu; rfl) hpos (by unfold maxLen; omega) (by omega) hb0
  exact ⟨gg, cap1, w1, h1, by simpa using h2, h3, h4⟩
/-- At an append whose answer is known. -/
theorem wpList_append_eq {ops : Array Oper} {rest : List Oper} {o : Oper} {a : Act} {Q : Exit → Act → World → Prop} {w w1 : World} {r : Value} (hgd : o.guard = none) (s x : Operand) (t t' : TypeId)
  (ho : o.op = .call { callee := .builtin .append, args := #[s, x], argTypes := #[t, t'] }) (v u : Value) (hs : a.eval s = v) (hx : a.eval x = u) (hr : ∀ ty, (Builtin.append_ #[t, t'] ty #[v, u]).run Tryz.prog w = .ok r w1)
  (h : wpList Tryz.prog ops Q rest (a.put o.dst r) w1) : wpList Tryz.prog ops Q (o :: rest) a w :=
 wpList_plain hgd fun _ hK => by
  have hr := hr o.type
  unfold Oper.wp execOp
  simp only [ho, resolve, invoke, builtin, Sem.run_bind, Sem.run_pure, Result.andThen_ok, List.map_toArray, List.map_cons, List.map_nil, hs, hx, hr]
  exact hK _ _ h
/-- A frame's bytes. -/
def frameB (v f s o : Int) (body : List UInt8) : List UInt8 := beN v 1 ++ beN f 1 ++ beN s 2 ++ beN o 1 ++ beN (body.length : Int) 4 ++ body
theorem Wr.out {w : World} {b0 p : Nat} {l : List UInt8} (h : Wr w b0 p l) : ∃ g c, w.cell? ⟨p, 0, none⟩ = some (.slice (some ⟨g, 0, none⟩) l.length c) ∧ Out l (.slice (some ⟨g, 0, none⟩) l.length c) w := by
 obtain ⟨_, g, c, hb, h1, h2⟩ := h
 refine ⟨g, c, hb.c1.1, ?_⟩
 rcases h2 with ⟨h, _⟩ | ⟨g', cap', cur, hv, _, hg, hc, _, _, ht⟩
 ·cases h
 ·injection hv with hv1 hv2 hv3; injection hv1 with hv1; injection hv1 with hv1; subst hv1; subst hv3
  exact Out.of_blk hg (by decide) (by decide) rfl hc (by simpa using ht)
end Go.Proofs.YtammjbmfiakbnaaGreatDoor
namespace Go.Proofs.YtammjbmfiakbnaaGreatDoor
open Go.RowKit
/-- A relation on memory that hangs on blocks outside of a set alone. -/
structure Rel (R : (Nat → Prop) → World → Prop) : Prop where
 onx : ∀ (X : Nat → Prop) (w w' : World), Onx X w w' → R X w → R X w'
 weak : ∀ (X X' : Nat → Prop) (w : World), (∀ b, X' b → X b ∨ w.heap.size ≤ b) → R X w → R X' w
/-- A set, and the block of a row. -/
def XI (X : Nat → Prop) (kv : Value) (b : Nat) : Prop := X b ∨ kv.ownBlock = some b
theorem Rel.ext {R : (Nat → Prop) → World → Prop} (hR : Rel R) {X : Nat → Prop} {w w' : World} (h : R X w) (he : Ext w w') : R X w' := hR.onx X w w' (Onx.of_ext he X) h
/-- The row grows. -/
theorem Rel.grow {R : (Nat → Prop) → World → Prop} (hR : Rel R) {X : Nat → Prop} {kv : Value} {w2 w3 : World} {gg n cap : Nat} {ob : Obj} (h : R (XI X kv) w2)
  (hgrow : (w2.alloc ob).grownBy w3 kv.ownBlock) (hat : kv.ownBlock = some gg ∨ gg = w2.heap.size + 1) : R (XI X (.slice (some ⟨gg, 0, none⟩) n cap)) w3 := by
 have h1 := hR.weak _ (fun b => XI X kv b ∨ b = gg) w2 (fun b hb => by
  rcases hb with hb | rfl
  ·exact .inl hb
  ·rcases hat with h | h
   ·exact .inl (.inr h)
   ·exact .inr (by omega)) h
 have h2 := hR.onx _ w2 w3 ⟨by have := hgrow.size; simp at this; omega, fun k hk hx => (hgrow.block k (by simp; omega) (fun e => hx (.inl (.inr e.symm)))).trans (((Ext.refl w2).alloc ob).block k hk)⟩ h1
 refine hR.weak _ _ w3 (fun b hb => .inl ?_) h2
 rcases hb with hb | hb
 ·exact .inl (.inl hb)
 ·injection hb with hb
  exact .inr hb.symm
/-- A type as the package has it, outside of a set of blocks. -/
def InfoAt (X : Nat → Prop) : Nat → World → Value → Ty → Prop
 |0, _, _, _ => False
 |n + 1, w, I, T =>
  (1 ≤ T.kind ∧ T.kind ≤ 21 ∧ T.kind ≠ 10 ∧ T.kids = [] ∧ I = .iface 94 (natT T.kind)) ∨
  ((T.kind = 32 ∨ T.kind = 34) ∧ ∃ t te ve, T.kids = [t] ∧ I = .iface 98 (.agg #[.int .u8 4, .int .i64 T.kind, .string ⟨#[]⟩, .nilIface, .iface te ve]) ∧ InfoAt X n w (.iface te ve) t) ∨
  (T.kind = 33 ∧ ∃ t t' te ve te' ve', T.kids = [t, t'] ∧ I = .iface 98 (.agg #[.int .u8 4, .int .i64 33, .string ⟨#[]⟩, .iface te ve, .iface te' ve']) ∧ InfoAt X n w (.iface te ve) t ∧ InfoAt X n w (.iface te' ve') t') ∨
  (T.kind = 49 ∧ ∃ A c is, I = .iface 100 (.agg #[.int .u8 4, .int .i64 49, .string ⟨#[]⟩, .slice A T.kids.length c]) ∧ T.kids.length ≤ c ∧ is.length = T.kids.length ∧ SegR X w A is ∧
   ∀ (i : Nat) (t : Ty), T.kids[i]? = some t → ∃ te ve, is[i]? = some (.iface te ve) ∧ InfoAt X n w (.iface te ve) t) ∨
  (T.kind = 48 ∧ ∃ A c is, I = .iface 103 (.agg #[.int .u8 4, .int .i64 48, .string ⟨#[]⟩, .string ⟨#[]⟩, .string ⟨#[]⟩, .slice A T.kids.length c]) ∧ T.kids.length ≤ c ∧ is.length = T.kids.length * 2 ∧ SegR X w A is ∧
   ∀ (i : Nat) (t : Ty), T.kids[i]? = some t → ∃ s te ve, T.names[i]? = some s ∧ is[i * 2]? = some (.string s) ∧ is[i * 2 + 1]? = some (.iface te ve) ∧ InfoAt X n w (.iface te ve) t)
theorem InfoAt.onx {X : Nat → Prop} {w w' : World} (ho : Onx X w w') : ∀ (n : Nat) (I : Value) (T : Ty), InfoAt X n w I T → InfoAt X n w' I T
 |0, _, _, h => h
 |n + 1, I, T, h => by
  rcases h with h | ⟨h, t, te, ve, h1, h2, h3⟩ | ⟨h, t, t', te, ve, te', ve', h1, h2, h3, h4⟩ | ⟨h, A, c, is, h1, h2, h3, h4, h5⟩ | ⟨h, A, c, is, h1, h2, h3, h4, h5⟩
  ·exact .inl h
  ·exact .inr (.inl ⟨h, t, te, ve, h1, h2, InfoAt.onx ho n _ _ h3⟩)
  ·exact .inr (.inr (.inl ⟨h, t, t', te, ve, te', ve', h1, h2, InfoAt.onx ho n _ _ h3, InfoAt.onx ho n _ _ h4⟩))
  ·refine .inr (.inr (.inr (.inl ⟨h, A, c, is, h1, h2, h3, h4.onx ho, fun i t ht => ?_⟩)))
   obtain ⟨te, ve, hx, hi⟩ := h5 i t ht
   exact ⟨te, ve, hx, InfoAt.onx ho n _ _ hi⟩
  ·refine .inr (.inr (.inr (.inr ⟨h, A, c, is, h1, h2, h3, h4.onx ho, fun i t ht => ?_⟩)))
   obtain ⟨s, te, ve, hs, hx, hy, hi⟩ := h5 i t ht
   exact ⟨s, te, ve, hs, hx, hy, InfoAt.onx ho n _ _ hi⟩
theorem InfoAt.weak {X X' : Nat → Prop} {w : World} (hx : ∀ b, X' b → X b ∨ w.heap.size ≤ b) : ∀ (n : Nat) (I : Value) (T : Ty), InfoAt X n w I T → InfoAt X' n w I T
 |0, _, _, h => h
 |n + 1, I, T, h => by
  rcases h with h | ⟨h, t, te, ve, h1, h2, h3⟩ | ⟨h, t, t', te, ve, te', ve', h1, h2, h3, h4⟩ | ⟨h, A, c, is, h1, h2, h3, h4, h5⟩ | ⟨h, A, c, is, h1, h2, h3, h4, h5⟩
  ·exact .inl h
  ·exact .inr (.inl ⟨h, t, te, ve, h1, h2, InfoAt.weak hx n _ _ h3⟩)
  ·exact .inr (.inr (.inl ⟨h, t, t', te, ve, te', ve', h1, h2, InfoAt.weak hx n _ _ h3, InfoAt.weak hx n _ _ h4⟩))
  ·refine .inr (.inr (.inr (.inl ⟨h, A, c, is, h1, h2, h3, h4.weak hx, fun i t ht => ?_⟩)))
   obtain ⟨te, ve, hx', hi⟩ := h5 i t ht
   exact ⟨te, ve, hx', InfoAt.weak hx n _ _ hi⟩
  ·refine .inr (.inr (.inr (.inr ⟨h, A, c, is, h1, h2, h3, h4.weak hx, fun i t ht => ?_⟩)))
   obtain ⟨s, te, ve, hs, hx', hy, hi⟩ := h5 i t ht
   exact ⟨s, te, ve, hs, hx', hy, InfoAt.weak hx n _ _ hi⟩
theorem InfoAt.rel (n : Nat) (I : Value) (T : Ty) : Rel (fun X w => InfoAt X n w I T) := ⟨fun _ _ _ ho h => InfoAt.onx ho n I T h, fun _ _ _ hx h => InfoAt.weak hx n I T h⟩
theorem InfoAt.form {X : Nat → Prop} {n : Nat} {w : World} {I : Value} {T : Ty} (h : InfoAt X n w I T) : ∃ te ve, I = .iface te ve := by
 cases n with
 |zero => exact h.elim
 |succ n =>
  rcases h with h | ⟨h, t, te, ve, h1, h2, h3⟩ | ⟨h, t, t', te, ve, te', ve', h1, h2, h3, h4⟩ | ⟨h, A, c, is, h1, h2, h3, h4, h5⟩ | ⟨h, A, c, is, h1, h2, h3, h4, h5⟩
  ·exact ⟨_, _, h.2.2.2.2⟩
  ·exact ⟨_, _, h2⟩
  ·exact ⟨_, _, h2⟩
  ·exact ⟨_, _, h1⟩
  ·exact ⟨_, _, h1⟩
/-- What info answers. -/
def InfoPost (X : Nat → Prop) (n : Nat) (T : Ty) (w : World) (e : Ending) (w' : World) : Prop :=
 ∃ te ve, e = .returned (.tuple #[.iface te ve, .bool true]) ∧ InfoAt X n w' (.iface te ve) T ∧ Ext w w'
theorem info60 : (Tryz.prog.info? 60).map (fun i => (i.zero, i.size, i.bytes)) = some (some .nilIface, 1, 16) := by kernel_rfl
/-- What info's loop keeps. -/
structure ILoop (X : Nat → Prop) (n : Nat) (T : Ty) (w wr : World) (i : Nat) (kv : Value) (is : List Value) : Prop where
 le : i ≤ T.kids.length
 ext : Ext w wr
 own : wr.ownsRow w.heap.size 60 1 kv i is
 kids : ∀ (j : Nat) (t : Ty), j < i → T.kids[j]? = some t → ∃ te ve, is[j]? = some (.iface te ve) ∧ InfoAt (XI X kv) n wr (.iface te ve) t
theorem Shape.few {T : Ty} (h : Shape T) : T.kids.length ≤ 10 := by
 rcases h with ⟨_, h, _⟩ | ⟨_, h, _⟩ | ⟨_, _, h, _⟩ | ⟨_, _, h, _⟩ | ⟨_, _, _, h, _⟩
 ·omega
 ·omega
 ·exact h
 ·exact h
 ·rw [h]; simp
theorem iloop_step {X : Nat → Prop} {n : Nat} {T kt : Ty} {w wr W1 w2 w3 : World} {i gg cap : Nat} {kv : Value} {is : List Value} {te : TypeId} {ve : Value} {ob : Obj}
  (L : ILoop X n T w wr i kv is) (hi : T.kids[i]? = some kt) (hE1 : Ext wr W1) (hE2 : Ext W1 w2) (hI : InfoAt (XI X kv) n w2 (.iface te ve) kt)
  (hown : w3.ownsRow w.heap.size 60 1 (.slice (some ⟨gg, 0, none⟩) (i + 1) cap) (i + 1) (is ++ [.iface te ve])) (hgrow : (w2.alloc ob).grownBy w3 kv.ownBlock) (hat : kv.ownBlock = some gg ∨ gg = w2.heap.size + 1) :
  ILoop X n T w w3 (i + 1) (.slice (some ⟨gg, 0, none⟩) (i + 1) cap) (is ++ [.iface te ve]) := by
 have hlt := (List.getElem?_eq_some_iff.1 hi).1
 have hlen : is.length = i := by have := L.own.1; omega
 refine ⟨by omega, ?_, hown, fun j t hj ht => ?_⟩
 ·exact (((L.ext.trans hE1).trans hE2).alloc ob).grown hgrow (fun k hk => (own_block L.own hk).1)
 ·by_cases hji : j = i
  ·subst hji
   rw [hi] at ht
   injection ht with ht
   subst ht
   exact ⟨te, ve, by rw [List.getElem?_append_right (by omega)]; simp [hlen], (InfoAt.rel n _ _).grow hI hgrow hat⟩
  ·obtain ⟨te', ve', hx, hi'⟩ := L.kids j t (by omega) ht
   exact ⟨te', ve', by rw [List.getElem?_append_left (by omega)]; exact hx, (InfoAt.rel n _ _).grow ((InfoAt.rel n _ _).ext hi' (hE1.trans hE2)) hgrow hat⟩
theorem list2 {α : Type} {l : List α} (h : l.length = 2) : ∃ a b, l = [a, b] := by
 match l, h with
 |[a, b], _ => exact ⟨a, b, rfl⟩
theorem info105 : (Tryz.prog.info? 105).map (fun i => (i.zero, i.size, i.bytes)) = some (some (.agg #[.string ⟨#[]⟩, .nilIface]), 2, 32) := by kernel_rfl
/-- What info's second loop keeps. -/
structure ULoop (k : Int) (ns : List ByteArray) (is : List Value) (wr wu : World) (j : Nat) (fv : Value) (fcs : List Value) : Prop where
 ext : Ext wr wu
 blk : Blk wu wr.heap.size 103 #[.int .u8 4, .int .i64 k, .string ⟨#[]⟩, .string ⟨#[]⟩, .string ⟨#[]⟩, fv]
 own : wu.ownsRow (wr.heap.size + 1) 105 2 fv j fcs
 cells : ∀ (a : Nat) (s : ByteArray) (x : Value), a < j → ns[a]? = some s → is[a]? = some x → fcs[a * 2]? = some (.string s) ∧ fcs[a * 2 + 1]? = some x
theorem uloop_step {k : Int} {ns : List ByteArray} {is : List Value} {wr wu w3 : World} {j gg cap : Nat} {fv x : Value} {fcs : List Value} {s : ByteArray} {ob : Obj}
  (L : ULoop k ns is wr wu j fv fcs) (hs : ns[j]? = some s) (hx : is[j]? = some x) (hown : w3.ownsRow (wr.heap.size + 1) 105 2 (.slice (some ⟨gg, 0, none⟩) (j + 1) cap) (j + 1) (fcs ++ [.string s, x]))
  (hgrow : (wu.drew.alloc ob).grownBy w3 fv.ownBlock) (hat : fv.ownBlock = some gg ∨ gg = wu.heap.size + 1) :
  ULoop k ns is wr (w3.setCell ⟨wr.heap.size, 5, none⟩ (.slice (some ⟨gg, 0, none⟩) (j + 1) cap)) (j + 1) (.slice (some ⟨gg, 0, none⟩) (j + 1) cap) (fcs ++ [.string s, x]) := by
 have hlen : fcs.length = j * 2 := L.own.1
 have hp := L.blk.lt
 have hkb : ∀ k, fv.ownBlock = some k → wr.heap.size + 1 ≤ k := fun k hk => (own_block L.own hk).1
 have hE3 : Ext wr w3 := ((L.ext.drew).alloc ob).grown hgrow (fun k hk => by have := hkb k hk; omega)
 have hgg : gg ≠ wr.heap.size := by
  rcases hat with h | h
  ·have := hkb gg h; omega
  ·omega
 refine ⟨hE3.setCell (by simp) _, ?_, ?_, fun a s' x' ha hs' hx' => ?_⟩
 ·have h3 : Blk w3 wr.heap.size 103 #[.int .u8 4, .int .i64 k, .string ⟨#[]⟩, .string ⟨#[]⟩, .string ⟨#[]⟩, fv] :=
   (hgrow.block _ (by simp; omega) (fun e => by have := hkb _ e.symm; omega)).trans (L.blk.drew.alloc ob)
  exact h3.set_ 5 _
 ·obtain ⟨h1, h2⟩ := hown
  refine ⟨h1, ?_⟩
  rcases h2 with ⟨h, _⟩ | ⟨g', cap', cur, hv, hb, hg, q⟩
  ·cases h
  ·exact .inr ⟨g', cap', cur, hv, hb, (Below.heap_setCell w3 ⟨wr.heap.size, 5, none⟩ _ g' (by simp; omega)).trans hg, q⟩
 ·by_cases haj : a = j
  ·subst haj
   rw [hs] at hs'
   rw [hx] at hx'
   injection hs' with hs'
   injection hx' with hx'
   subst hs'
   subst hx'
   constructor
   ·rw [List.getElem?_append_right (by omega)]; simp [hlen]
   ·rw [List.getElem?_append_right (by omega)]; simp [hlen, show a * 2 + 1 - a * 2 = 1 by omega]
  ·obtain ⟨h1, h2⟩ := L.cells a s' x' (by omega) hs' hx'
   constructor
   ·rw [List.getElem?_append_left (by omega)]; exact h1
   ·rw [List.getElem?_append_left (by omega)]; exact h2
set_option maxRecDepth 100000 in
set_option maxHeartbeats 4000000 in
theorem info_any : ∀ (n : Nat), n ≤ 8 → ∀ (X : Nat → Prop) (m : Nat) (v : Value) (T : Ty) (w : World), (∀ b, X b → b < w.heap.size) → TyAt (fun _ => False) m w v T → Good n T →
  Calls Tryz.prog 25 #[v] w (InfoPost X n T w) := by
 intro n hn8
 induction n with
 |zero => intro X m v T w hX hT hG; exact hG.elim
 |succ n ih =>
  intro X m v T w hX hT hG
  cases m with
  |zero => exact hT.elim
  |succ m =>
   obtain ⟨A, c, A', c', cs, rfl, h1, h2, h3, h4, hnb, h5, h6, h7, h8⟩ := hT
   obtain ⟨hgk, hsh⟩ := hG
   by_cases hnat : 1 ≤ T.kind ∧ T.kind ≤ 21 ∧ T.kind ≠ 10 ∧ T.kids = [] ∧ T.names = []
   ·obtain ⟨g1, g2, g3, g4, g5⟩ := hnat
    have := info_native T.kind g1 g2 g3 A c (.slice A' T.names.length c') w
    rw [g4]
    exact this.mono fun e w' ⟨he, hx⟩ => ⟨_, _, he, .inl ⟨g1, g2, g3, g4, rfl⟩, hx⟩
   ·unfold maxLen at h2 h4
    have hk10 := hsh.few
    obtain ⟨i0, hi0, hz0, hz1, hz2⟩ := info_parts info60
    have H5 := Lib.hid h5
    have H6 := Lib.hid h6
    have H7 := Lib.hid h7
    have H8 := Lib.hid h8
    have Hgk := Lib.hid hgk
    have Hsh := Lib.hid hsh
    have Hnat := Lib.hid hnat
    have HX := Lib.hid hX
    have IH := Lib.hid ih
    clear h5 h6 h7 h8 hnb ih hgk hsh hnat hX
    go_enter Tryz.func25, Tryz.ntmps25
    go_wp2_with fail
    refine (newNative _ _).mono ?_
    rintro e w1 ⟨rfl, hx1⟩
    have hb1 := (Blk.new w 25 #[.int .i64 T.kind, .slice A T.kids.length c, .slice A' T.names.length c']).ext hx1
    have hlt1 := hb1.lt
    obtain ⟨c0, c1, c2⟩ := hb1.c3
    have Hb1 := Lib.hid hb1
    have Hx1 := Lib.hid ((((Ext.refl w).alloc _).trans hx1))
    clear hb1 hx1
    go_wp2_with fail
    generalize hW0 : World.alloc _ _ = W0
    have hw0 : Blk W0 w.heap.size 25 #[.int .i64 T.kind, .slice A T.kids.length c, .slice A' T.names.length c'] ∧ Blk W0 w1.heap.size 94 #[.int .u8 4, .int .i64 T.kind, .string ⟨#[]⟩] ∧ Ext w W0 := by
     rw [← hW0]
     exact ⟨Hb1.out.alloc _, Blk.new w1 94 _, Hx1.out.alloc _⟩
    obtain ⟨hv0, hn0, hE0⟩ := hw0
    have Hv0 := Lib.hid hv0
    have Hn0 := Lib.hid hn0
    have HE0 := Lib.hid hE0
    clear hW0 hv0 hn0 hE0 c0 c1 c2
    go_loopw [5, 19] (fun u v wr => ∃ (i : Nat) (is : List Value) (kv : Value), v = .int .i64 i ∧ kv = u ∧ ILoop X n T W0 wr i kv is) (fun _ v _ => T.kids.length - (intOf v).toNat)
    case atStart => exact ⟨0, [], _, rfl, rfl, Nat.zero_le _, Ext.refl _, World.ownsRow_nil _ _ _ _, fun j t h => by omega⟩
    case round =>
     obtain ⟨i, is, kv, rfl, rfl, hL⟩ := hrel
     have hle := hL.le
     obtain ⟨b0, b1, b2⟩ := (Hv0.out.ext hL.ext).c3
     obtain ⟨n0, n1, n2⟩ := (Hn0.out.ext hL.ext).c3
     have HL := Lib.hid hL
     clear hL
     by_cases hlti : (i : Int) < T.kids.length
     ·have hi' : i < T.kids.length := by omega
      obtain ⟨ka, kb, kd, e0, e1, e2, hkid⟩ := H8.out i _ (List.getElem?_eq_getElem hi')
      have hkt : T.kids[i]? = some T.kids[i] := List.getElem?_eq_getElem hi'
      have hkg := Hgk.out _ (List.getElem_mem hi')
      generalize T.kids[i] = kt at hkid hkt hkg
      obtain ⟨b, o, hA, hb, hbR, hcell⟩ := H7.out (by rintro rfl; simp at e0)
      subst hA
      have hx := HE0.out.trans HL.out.ext
      have j0 : wr.cell? ⟨b, o + i * 3, none⟩ = some ka := hx.cellS (hcell _ _ e0)
      have j1 : wr.cell? ⟨b, o + i * 3 + 1, none⟩ = some kb := hx.cellS (by rw [Nat.add_assoc]; exact hcell _ _ e1)
      have j2 : wr.cell? ⟨b, o + i * 3 + 2, none⟩ = some kd := hx.cellS (by rw [Nat.add_assoc]; exact hcell _ _ e2)
      obtain ⟨xA, xc, yA, yc, rfl, rfl, rfl⟩ := hkid.form3
      have hcall := IH.out (by omega) (XI X kv) m _ kt (wr.alloc (.cells #[.int .i64 kt.kind, .slice xA kt.kids.length xc, .slice yA kt.names.length yc] 25)) (fun b hb => by
       refine Nat.lt_of_lt_of_le ?_ ((Ext.refl wr).alloc _).size
       rcases hb with hb | hb
       ·have := HX.out b hb
        have := hx.size
        omega
       ·have := (own_block HL.out.own hb).2
        omega) (TyAt.onx (Onx.of_ext (hx.alloc _) _) _ _ _ hkid) hkg
      have Hcall := Lib.hid hcall
      have Hkt := Lib.hid hkt
      clear hkid hcall hkt e0 e1 e2 hcell hx hkg
      go_wp2_with fail
      refine Hcall.out.mono ?_
      rintro e w2 ⟨te, ve, rfl, hI, he2⟩
      have hown := (ownsRow_ext HL.out.own (((Ext.refl wr).alloc (.cells #[.int .i64 kt.kind, .slice xA kt.kids.length xc, .slice yA kt.names.length yc] 25)).trans he2))
      have hsz : W0.heap.size ≤ w2.heap.size := by have := HL.out.ext.size; have := he2.size; simp at this; omega
      have HI := Lib.hid hI
      have He2 := Lib.hid he2
      have Hown := Lib.hid hown
      clear hI he2 hown
      go_wp2_with (at_builtin; refine wpList_append_lies _ rfl _ _ _ rfl W0.heap.size 60 i0 _ 1 16 Tryz.underlying96 hi0 hz0 hz1 hz2 rfl (by omega) kv i is rfl (Hown.out.alloc _) ⟨w2.heap.size, 0, none⟩ 1 1 [.iface te ve] rfl rfl (World.news_of_block (heap_alloc_new w2 _)) (by simp [Value.oneCell']) (by omega) (by unfold maxLen; omega) (by omega) (by simp; omega) (w2.heap.size + 1) (by simp) ?_; intro gg cap1 w3 hown3 hgrow hat hltg)
      have hstep := iloop_step HL.out Hkt.out ((Ext.refl wr).alloc _) He2.out HI.out hown3 hgrow hat
      have Hstep := Lib.hid hstep
      clear hstep hown3 hgrow hat
      go_wp2_with fail
      go_roundw
      case rel => exact ⟨i + 1, _, _, by go_num, rfl, Hstep.out⟩
      case measure => simp [intOf]; omega
     ·obtain rfl : i = T.kids.length := by omega
      have hEw : Ext w wr := HE0.out.trans HL.out.ext
      have HEw := Lib.hid hEw
      clear hEw
      have hw94 : wr.heap.size = wr.heap.size := rfl
      rcases Hsh.out with ⟨hk, hl, hn⟩ | ⟨hk, hl, hn⟩ | ⟨hk, hl, hl', hn⟩ | ⟨hk, hl, hl', hnl, hnd⟩ | hn
      ·obtain ⟨g, cap, hkv, hg0, hg1⟩ := HL.out.own.form (by omega)
       obtain ⟨t, ht⟩ := List.length_eq_one_iff.1 hl
       obtain ⟨te, ve, hx, hI⟩ := HL.out.kids 0 t (by omega) (by rw [ht]; rfl)
       have hown := HL.out.own
       rw [hkv] at hown
       have q0 : wr.cell? ⟨g, 0, none⟩ = some (.iface te ve) := (hown.cellAt 0 (by omega)).trans hx
       have hI' := InfoAt.weak (X' := X) (fun b hb => .inl (.inl hb)) _ _ _ hI
       have HI := Lib.hid hI'
       have Ht := Lib.hid ht
       have Hk := Lib.hid hk
       have Hl := Lib.hid hl
       have u1 : ((T.kids.length : Int) != 1) = false := by simp [hl]
       have u2 : (0 : Int) < T.kids.length := by omega
       clear hI hI' hown hx ht hl hn
       subst hkv
       have fin : ∀ (a : Nat), InfoPost X (n + 1) T w (.returned (.tuple #[.iface 98 (.agg #[.int .u8 4, .int .i64 T.kind, .string ⟨#[]⟩, .nilIface, .iface te ve]), .bool true])) (wr.drewN a) := fun a =>
        ⟨_, _, rfl, .inr (.inl ⟨Hk.out, t, te, ve, Ht.out, rfl, InfoAt.onx (Onx.of_ext ((Ext.refl wr).drewN a) X) _ _ _ HI.out⟩), HEw.out.drewN a⟩
       have Fin := Lib.hid fin
       clear fin
       rcases hk with hk | hk
       ·have t1 : (T.kind == 32) = true := by simp [hk]
        clear hk
        go_wp2_with fail
        go_quiet (fail)
        go_wp2_with fail
        go_ret2
        exact Fin.out _
       ·have t0 : (T.kind == 32) = false := by simp [hk]
        have t1 : (T.kind == 34) = true := by simp [hk]
        clear hk
        go_wp2_with fail
        go_quiet (fail)
        go_wp2_with fail
        go_ret2
        exact Fin.out _
      ·obtain ⟨g, cap, hkv, hg0, hg1⟩ := HL.out.own.form (by omega)
       obtain ⟨t, t', ht⟩ := list2 hl
       obtain ⟨te, ve, hx, hI⟩ := HL.out.kids 0 t (by omega) (by rw [ht]; rfl)
       obtain ⟨te', ve', hx', hJ⟩ := HL.out.kids 1 t' (by omega) (by rw [ht]; rfl)
       have hown := HL.out.own
       rw [hkv] at hown
       have q0 : wr.cell? ⟨g, 0, none⟩ = some (.iface te ve) := (hown.cellAt 0 (by omega)).trans hx
       have q1 : wr.cell? ⟨g, 1, none⟩ = some (.iface te' ve') := (hown.cellAt 1 (by omega)).trans hx'
       have hI' := InfoAt.weak (X' := X) (fun b hb => .inl (.inl hb)) _ _ _ hI
       have hJ' := InfoAt.weak (X' := X) (fun b hb => .inl (.inl hb)) _ _ _ hJ
       have HI := Lib.hid hI'
       have HJ := Lib.hid hJ'
       have Ht := Lib.hid ht
       have Hk := Lib.hid hk
       have u1 : ((T.kids.length : Int) != 2) = false := by simp [hl]
       have u2 : (0 : Int) < T.kids.length := by omega
       have u3 : (1 : Int) < T.kids.length := by omega
       clear hI hI' hJ hJ' hown hx hx' ht hl hn
       subst hkv
       have fin : ∀ (a : Nat), InfoPost X (n + 1) T w (.returned (.tuple #[.iface 98 (.agg #[.int .u8 4, .int .i64 T.kind, .string ⟨#[]⟩, .iface te ve, .iface te' ve']), .bool true])) (wr.drewN a) := fun a =>
        ⟨_, _, rfl, .inr (.inr (.inl ⟨Hk.out, t, t', te, ve, te', ve', Ht.out, by rw [Hk.out], InfoAt.onx (Onx.of_ext ((Ext.refl wr).drewN a) X) _ _ _ HI.out, InfoAt.onx (Onx.of_ext ((Ext.refl wr).drewN a) X) _ _ _ HJ.out⟩)), HEw.out.drewN a⟩
       have Fin := Lib.hid fin
       clear fin
       have t0 : (T.kind == 32) = false := by simp [hk]
       have t1 : (T.kind == 34) = false := by simp [hk]
       have t2 : (T.kind == 33) = true := by simp [hk]
       clear hk
       go_wp2_with fail
       go_quiet (fail)
       go_wp2_with fail
       go_ret2
       exact Fin.out _
      ·obtain ⟨g, cap, hkv, hg0, hg1⟩ := HL.out.own.form (by omega)
       have hown := HL.out.own
       rw [hkv] at hown
       have hseg : SegR X wr (some ⟨g, 0, none⟩) is := fun _ => ⟨g, 0, rfl, hg1, fun hx => by have := HX.out g hx; have := HE0.out.size; omega, fun j u hu => by
        have hj := (List.getElem?_eq_some_iff.1 hu).1
        rw [Nat.zero_add, hown.cellAt j (by have := hown.1; omega)]
        exact hu⟩
       have hcap : T.kids.length ≤ cap := by
        rcases hown.2 with ⟨h, _⟩ | ⟨_, _, _, h, _, _, h2, _⟩
        ·cases h
        ·injection h with _ _ h; omega
       have hkk : ∀ (i : Nat) (t : Ty), T.kids[i]? = some t → ∃ te ve, is[i]? = some (.iface te ve) ∧ InfoAt X n wr (.iface te ve) t := fun i t ht => by
        obtain ⟨te, ve, hx, hI⟩ := HL.out.kids i t (List.getElem?_eq_some_iff.1 ht).1 ht
        exact ⟨te, ve, hx, InfoAt.weak (fun b hb => .inl (.inl hb)) _ _ _ hI⟩
       have hil : is.length = T.kids.length := by have := hown.1; omega
       subst hkv
       have fin : InfoPost X (n + 1) T w (.returned (.tuple #[.iface 100 (.agg #[.int .u8 4, .int .i64 T.kind, .string ⟨#[]⟩, .slice (some ⟨g, 0, none⟩) T.kids.length cap]), .bool true])) wr :=
        ⟨_, _, rfl, .inr (.inr (.inr (.inl ⟨hk, _, cap, is, by rw [hk], hcap, hil, hseg, hkk⟩))), HEw.out⟩
       have Fin := Lib.hid fin
       have t0 : (T.kind == 32) = false := by simp [hk]
       have t1 : (T.kind == 34) = false := by simp [hk]
       have t2 : (T.kind == 33) = false := by simp [hk]
       have t3 : (T.kind == 49) = true := by simp [hk]
       clear hk fin hown hseg hcap hkk hil hl hl' hn
       go_wp2_with fail
       go_ret2
       exact Fin.out
      ·obtain ⟨wp, hwp⟩ : ∃ x, x = wr := ⟨wr, rfl⟩
       subst hwp
       obtain ⟨u0, hu0, hy0, hy1, hy2⟩ := info_parts info105
       obtain ⟨g, cap, hkv, hg0, hg1⟩ := HL.out.own.form (by omega)
       have hown := HL.out.own
       rw [hkv] at hown
       have hil : is.length = T.kids.length := by have := hown.1; omega
       subst hkv
       have t0 : (T.kind == 32) = false := by simp [hk]
       have t1 : (T.kind == 34) = false := by simp [hk]
       have t2 : (T.kind == 33) = false := by simp [hk]
       have t3 : (T.kind == 49) = false := by simp [hk]
       have t4 : (T.kind == 48) = true := by simp [hk]
       have Hk := Lib.hid hk
       have Hown := Lib.hid hown
       have Hil := Lib.hid hil
       have hnl' : (T.names.length : Int) = T.kids.length := by omega
       have Hnl := Lib.hid hnl
       have Hnl' := Lib.hid hnl'
       clear hk hown hil hnl hnl' hnd
       go_wp2_with fail
       generalize hWu : World.alloc _ _ = Wu
       have hu0' : ULoop T.kind T.names is wp Wu 0 (.slice none 0 0) [] := by
        rw [← hWu]
        exact ⟨(Ext.refl wp).alloc _, Blk.new wp 103 _, World.ownsRow_nil _ _ _ _, fun a s x h => by omega⟩
       have HU0 := Lib.hid hu0'
       clear hWu hu0'
       go_loopw [75] (fun v wr => ∃ (j : Nat) (fv : Value) (fcs : List Value), j ≤ T.kids.length ∧ v = .int .i64 j ∧ ULoop T.kind T.names is wp wr j fv fcs) (fun v _ => T.kids.length - (intOf v).toNat)
       case atStart => exact ⟨0, _, [], Nat.zero_le _, rfl, HU0.out⟩
       case round =>
        obtain ⟨j, fv, fcs, hj, rfl, hU⟩ := hrel
        have HU := Lib.hid hU
        obtain ⟨a0, a1, a2, a3, a4, a5⟩ : wr.cell? ⟨wp.heap.size, 0, none⟩ = some (.int .u8 4) ∧ wr.cell? ⟨wp.heap.size, 1, none⟩ = some (.int .i64 T.kind) ∧ wr.cell? ⟨wp.heap.size, 2, none⟩ = some (.string ⟨#[]⟩) ∧ wr.cell? ⟨wp.heap.size, 3, none⟩ = some (.string ⟨#[]⟩) ∧ wr.cell? ⟨wp.heap.size, 4, none⟩ = some (.string ⟨#[]⟩) ∧ wr.cell? ⟨wp.heap.size, 5, none⟩ = some fv :=
         ⟨hU.blk.cell 0, hU.blk.cell 1, hU.blk.cell 2, hU.blk.cell 3, hU.blk.cell 4, hU.blk.cell 5⟩
        have r2 : wr.cell? ⟨w.heap.size, 2, none⟩ = some (.slice A' T.names.length c') := hU.ext.cellS b2
        have hlt5 := hU.blk.lt
        clear hU
        by_cases hjl : (j : Int) < T.kids.length
        ·have hj' : j < T.kids.length := by omega
         have hjn : j < T.names.length := by have := Hnl.out; omega
         obtain ⟨te, ve, hxj, hI⟩ := HL.out.kids j _ hj' (List.getElem?_eq_getElem hj')
         have q0 : wr.cell? ⟨g, j, none⟩ = some (.iface te ve) := HU.out.ext.cellS ((Hown.out.cellAt j (by omega)).trans hxj)
         obtain ⟨b, o, hA, hb, hbR, hcell⟩ := H5.out (by intro e; simp at e; rw [e] at hjn; simp at hjn)
         subst hA
         have hs : T.names[j]? = some T.names[j] := List.getElem?_eq_getElem hjn
         have s0 : wr.cell? ⟨b, o + j, none⟩ = some (.string T.names[j]) := (HEw.out.trans HU.out.ext).cellS (hcell j _ (by simp [hs]))
         generalize T.names[j] = s at hs s0
         have Hs := Lib.hid hs
         have Hxj := Lib.hid hxj
         have hj1 : (j : Int) < T.names.length := by omega
         have hj0 : (0 : Int) ≤ j := by omega
         have hj10 : j ≤ 10 := by omega
         clear hs hxj hI hcell
         go_upto_region 30 with fail
         refine wp_region_K (fun w' => w'.cell? ⟨wp.heap.size, 5, none⟩ = some fv ∧ w'.cell? ⟨w.heap.size, 2, none⟩ = some (.slice (some ⟨b, o, none⟩) T.names.length c') ∧ w'.cell? ⟨b, o + j, none⟩ = some (.string s)) (ix [1, 3, 6, 9]) 13 [false, false, false, false, false, false, false, false, false, false, false, false, false] (by kernel_rfl) rfl rfl ?_
         refine fV 0 (v := ?v0) rfl (by rfl) ?y0 ?_
         case y0 => intro w; go_simp; with_reducible rfl
         simp only [aP, aN, aT, aZ, aS]
         refine fV 2 (v := ?v2) rfl (by rfl) ?y2 ?_
         case y2 => intro w; go_simp; with_reducible rfl
         simp only [aP, aN, aT, aZ, aS]
         refine fV 4 (v := ?v4) rfl (by rfl) ?y4 ?_
         case y4 => intro w; go_simp; with_reducible rfl
         simp only [aP, aN, aT, aZ, aS]
         refine fV 7 (v := ?v7) rfl (by rfl) ?y7 ?_
         case y7 => intro w; go_simp; with_reducible rfl
         simp only [aP, aN, aT, aZ, aS]
         refine tV 3 (ix [5, 6, 8, 9, 10, 11, 12]) (v := ?v3) rfl ⟨a5, r2, s0⟩ (by rfl) ?y3 ?_
         case y3 => rintro w ⟨hs0, hs1, hs2⟩; go_simp; with_reducible rfl
         simp only [aP, aN, aT, aZ, aS]
         refine fV 5 (v := ?v5) rfl (by rfl) ?y5 ?_
         case y5 => intro w; go_simp; with_reducible rfl
         simp only [aP, aN, aT, aZ, aS]
         refine tV 6 (rg 8 12) (v := ?v6) rfl ⟨a5, r2, s0⟩ (by rfl) ?y6 ?_
         case y6 => rintro w ⟨hs0, hs1, hs2⟩; go_simp; with_reducible rfl
         simp only [aP, aN, aT, aZ, aS]
         refine fV 8 (v := ?v8) rfl (by rfl) ?y8 ?_
         case y8 => intro w; go_simp; with_reducible rfl
         simp only [aP, aN, aT, aZ, aS]
         refine tV 1 (ix [10, 11, 12]) (v := ?v1) rfl ⟨a5, r2, s0⟩ (by rfl) ?y1 ?_
         case y1 => rintro w ⟨hs0, hs1, hs2⟩; go_simp; with_reducible rfl
         simp only [aP, aN, aT, aZ, aS]
         refine wpAnyK_one 9 (by kernel_rfl) rfl rfl (fun K' hK => ?_)
         go_simp
         refine hK.out _ _ (fun _ => ?_) ?_
         ·exact ⟨((Ext.refl wr).drew.alloc _).cellS a5, ((Ext.refl wr).drew.alloc _).cellS r2, ((Ext.refl wr).drew.alloc _).cellS s0⟩
         clear hK K'
         simp only [aP, aN, aT, aZ, aS]
         refine wpAnyK_one 10 (by kernel_rfl) rfl rfl (fun K' hK => ?_)
         refine wp_append_lies _ _ _ _ (by rfl) (wp.heap.size + 1) 105 u0 _ 2 32 Tryz.underlying101 hu0 hy0 hy1 hy2 rfl (by omega) fv j fcs (by rfl) (HU.out.own.drew.alloc _) ⟨wr.heap.size, 0, none⟩ 1 1 [.string s, .iface te ve] (by rfl) (by rfl)
          (World.news_of_block (heap_alloc_new wr.drew _)) (by simp [Value.oneCell']) (by omega) (by unfold maxLen; omega) (by omega) (by simp; omega) (wr.heap.size + 1) (by simp) ?_
         intro gg cap1 w3 hown3 hgrow hat hltg
         have hfr := HU.out.blk.drew.alloc (.cells #[.string s, .iface te ve] 105)
         have hb3 : Blk w3 wp.heap.size 103 #[.int .u8 4, .int .i64 T.kind, .string ⟨#[]⟩, .string ⟨#[]⟩, .string ⟨#[]⟩, fv] := (hgrow.block _ hfr.lt (fun e => by have := (own_block HU.out.own e.symm).1; omega)).trans hfr
         have k0 : w3.cell? ⟨wp.heap.size, 5, none⟩ = some fv := hb3.cell 5
         have f0 : w3.frozen? ⟨wp.heap.size, 5, none⟩ = false := hb3.frozen 5
         have Hstep := Lib.hid (uloop_step HU.out Hs.out Hxj.out hown3 hgrow hat)
         clear hown3 hgrow hat hfr hb3
         refine hK.out _ _ (fun h => absurd h (by decide)) ?_
         clear hK K'
         simp only [aP, aN, aT, aZ, aS]
         refine fV 11 (v := ?v11) rfl (by rfl) ?y11 ?_
         case y11 => intro w; go_simp; with_reducible rfl
         simp only [aP, aN, aT, aZ, aS]
         refine wpAnyK_one 12 (by kernel_rfl) rfl rfl (fun K' hK => ?_)
         go_simp
         refine hK.out _ _ (fun h => absurd h (by decide)) ?_
         clear hK K'
         simp only [aP, aN, aT, aZ, aS]
         refine wpAnyK_done (by kernel_rfl) ?_ _
         go_wp2_with fail
         exact ⟨⟨j + 1, _, _, by omega, rfl, Hstep.out⟩, by simp [intOf]; omega⟩
        ·obtain rfl : j = T.kids.length := by omega
         obtain ⟨g2, cap2, hfv, hg2, hg3⟩ := HU.out.own.form (by omega)
         have hown2 := HU.out.own
         rw [hfv] at hown2
         have hseg : SegR X wr (some ⟨g2, 0, none⟩) fcs := fun _ => ⟨g2, 0, rfl, hg3, fun hx => by have := HX.out g2 hx; have := HEw.out.size; omega, fun j u hu => by
          have hj := (List.getElem?_eq_some_iff.1 hu).1
          rw [Nat.zero_add, hown2.cellAt j (by have := hown2.1; omega)]
          exact hu⟩
         have hcap : T.kids.length ≤ cap2 := by
          rcases hown2.2 with ⟨h, _⟩ | ⟨_, _, _, h, _, _, h2, _⟩
          ·cases h
          ·injection h with _ _ h; omega
         have hkk : ∀ (i : Nat) (t : Ty), T.kids[i]? = some t → ∃ s te ve, T.names[i]? = some s ∧ fcs[i * 2]? = some (.string s) ∧ fcs[i * 2 + 1]? = some (.iface te ve) ∧ InfoAt X n wr (.iface te ve) t := fun i t ht => by
          have hil := (List.getElem?_eq_some_iff.1 ht).1
          have hin : i < T.names.length := by have := Hnl.out; omega
          obtain ⟨te, ve, hx, hI⟩ := HL.out.kids i t hil ht
          obtain ⟨h1, h2⟩ := HU.out.cells i T.names[i] _ hil (List.getElem?_eq_getElem hin) hx
          exact ⟨_, te, ve, List.getElem?_eq_getElem hin, h1, h2, InfoAt.onx (Onx.of_ext HU.out.ext X) _ _ _ (InfoAt.weak (fun b hb => .inl (.inl hb)) _ _ _ hI)⟩
         have hfl : fcs.length = T.kids.length * 2 := hown2.1
         subst hfv
         have fin : InfoPost X (n + 1) T w (.returned (.tuple #[.iface 103 (.agg #[.int .u8 4, .int .i64 T.kind, .string ⟨#[]⟩, .string ⟨#[]⟩, .string ⟨#[]⟩, .slice (some ⟨g2, 0, none⟩) T.kids.length cap2]), .bool true])) wr :=
          ⟨_, _, rfl, .inr (.inr (.inr (.inr ⟨Hk.out, _, cap2, fcs, by rw [Hk.out], hcap, hfl, hseg, hkk⟩))), HEw.out.trans HU.out.ext⟩
         have Fin := Lib.hid fin
         clear hown2 hseg hcap hkk hfl fin
         go_wp2_with fail
         go_ret2
         exact Fin.out
      ·exact (Hnat.out ⟨hn.1, hn.2.1, hn.2.2⟩).elim
end Go.Proofs.YtammjbmfiakbnaaGreatDoor
namespace Go.Proofs.YtammjbmfiakbnaaGreatDoor
open Go.RowKit
/-- What a value holds besides other values. -/
structure Sc where
 nul : Bool
 n : Int
 f : Nat
 text : ByteArray
 data : List UInt8
 scale : Int
 months : Int
 days : Int
 nanos : Int
/-- A value. -/
inductive Vl where
 |mk (s : Sc) (keys kids : List Vl)
def Vl.sc : Vl → Sc | .mk s _ _ => s
def Vl.keys : Vl → List Vl | .mk _ k _ => k
def Vl.kids : Vl → List Vl | .mk _ _ k => k
@[simp] theorem Vl.sc_mk (s : Sc) (ks ds : List Vl) : (Vl.mk s ks ds).sc = s := rfl
@[simp] theorem Vl.keys_mk (s : Sc) (ks ds : List Vl) : (Vl.mk s ks ds).keys = ks := rfl
@[simp] theorem Vl.kids_mk (s : Sc) (ks ds : List Vl) : (Vl.mk s ks ds).kids = ds := rfl
/-- Nothing, and nothing else. -/
def Sc.none : Sc := ⟨true, 0, 0, ⟨#[]⟩, [], 0, 0, 0, 0⟩
def Vl.bad : Vl := .mk Sc.none [] []
/-- How long a text, and how great a slice, may be. -/
def reach : Nat := 140737488351232
/-- Each number is of its kind; no text and no row of bytes is longer than a machine's memory. -/
structure ScOk (s : Sc) : Prop where
 text : s.text.size ≤ reach
 data : s.data.length ≤ reach
 n : -9223372036854775808 ≤ s.n ∧ s.n ≤ 9223372036854775807
 f : s.f < 18446744073709551616
 scale : -9223372036854775808 ≤ s.scale ∧ s.scale ≤ 9223372036854775807
 months : -9223372036854775808 ≤ s.months ∧ s.months ≤ 9223372036854775807
 days : -9223372036854775808 ≤ s.days ∧ s.days ≤ 9223372036854775807
 nanos : -9223372036854775808 ≤ s.nanos ∧ s.nanos ≤ 9223372036854775807
theorem ScOk.none : ScOk Sc.none := ⟨(Nat.zero_le _ : 0 ≤ reach), (Nat.zero_le _ : 0 ≤ reach), by simp [Sc.none], by simp [Sc.none], by simp [Sc.none], by simp [Sc.none], by simp [Sc.none], by simp [Sc.none]⟩
/-- The eleven cells. -/
def vcells (s : Sc) (A : Option Addr) (c : Nat) (A1 : Option Addr) (l1 c1 : Nat) (A2 : Option Addr) (l2 c2 : Nat) : List Value :=
 [.bool s.nul, .int .i64 s.n, .float .f64 s.f, .string s.text, .slice A s.data.length c, .int .i64 s.scale, .int .i64 s.months, .int .i64 s.days, .int .i64 s.nanos, .slice A1 l1 c1, .slice A2 l2 c2]
/-- A row of values lies in memory, each read by P. -/
def RowOf (X : Nat → Prop) (w : World) (A : Option Addr) (P : List Value → Vl → Prop) (l : List Vl) : Prop :=
 ∃ cs : List Value, cs.length = l.length * 11 ∧ SegR X w A cs ∧ ∀ (i : Nat) (t : Vl), l[i]? = some t → P ((cs.drop (i * 11)).take 11) t
/-- Eleven cells read as a value, outside of a set of blocks. -/
def VlAt (X : Nat → Prop) : Nat → World → List Value → Vl → Prop
 |0, _, _, _ => False
 |n + 1, w, v, V => ∃ A c A1 c1 A2 c2, v = vcells V.sc A c A1 V.keys.length c1 A2 V.kids.length c2 ∧ V.sc.data.length ≤ c ∧ c ≤ maxLen ∧ V.keys.length ≤ c1 ∧ c1 ≤ maxLen ∧ V.kids.length ≤ c2 ∧ c2 ≤ maxLen ∧ ScOk V.sc ∧
   SegR X w A (V.sc.data.map byteV) ∧ RowOf X w A1 (VlAt X n w) V.keys ∧ RowOf X w A2 (VlAt X n w) V.kids
theorem RowOf.imp {X X' : Nat → Prop} {w w' : World} {A : Option Addr} {P P' : List Value → Vl → Prop} {l : List Vl} (h : RowOf X w A P l) (hs : ∀ cs, SegR X w A cs → SegR X' w' A cs) (hp : ∀ c t, P c t → P' c t) : RowOf X' w' A P' l := by
 obtain ⟨cs, h1, h2, h3⟩ := h
 exact ⟨cs, h1, hs _ h2, fun i t ht => hp _ _ (h3 i t ht)⟩
theorem RowOf.nil (X : Nat → Prop) (w : World) (A : Option Addr) (P : List Value → Vl → Prop) : RowOf X w A P [] := ⟨[], rfl, SegR.nil _ _ _, fun i t ht => by simp at ht⟩
theorem VlAt.onx {X : Nat → Prop} {w w' : World} (ho : Onx X w w') : ∀ (n : Nat) (v : List Value) (V : Vl), VlAt X n w v V → VlAt X n w' v V
 |0, _, _, h => h
 |n + 1, v, V, h => by
  obtain ⟨A, c, A1, c1, A2, c2, hv, h1, h2, h3, h4, h5, h6, hs, hd, hk, hd2⟩ := h
  exact ⟨A, c, A1, c1, A2, c2, hv, h1, h2, h3, h4, h5, h6, hs, hd.onx ho, hk.imp (fun _ h => h.onx ho) (VlAt.onx ho n), hd2.imp (fun _ h => h.onx ho) (VlAt.onx ho n)⟩
theorem VlAt.weak {X X' : Nat → Prop} {w : World} (hx : ∀ b, X' b → X b ∨ w.heap.size ≤ b) : ∀ (n : Nat) (v : List Value) (V : Vl), VlAt X n w v V → VlAt X' n w v V
 |0, _, _, h => h
 |n + 1, v, V, h => by
  obtain ⟨A, c, A1, c1, A2, c2, hv, h1, h2, h3, h4, h5, h6, hs, hd, hk, hd2⟩ := h
  exact ⟨A, c, A1, c1, A2, c2, hv, h1, h2, h3, h4, h5, h6, hs, hd.weak hx, hk.imp (fun _ h => h.weak hx) (VlAt.weak hx n), hd2.imp (fun _ h => h.weak hx) (VlAt.weak hx n)⟩
theorem VlAt.rel (n : Nat) (v : List Value) (V : Vl) : Rel (fun X w => VlAt X n w v V) := ⟨fun _ _ _ ho h => VlAt.onx ho n v V h, fun _ _ _ hx h => VlAt.weak hx n v V h⟩
theorem VlAt.up {X : Nat → Prop} {w : World} : ∀ (n : Nat) (v : List Value) (V : Vl), VlAt X n w v V → VlAt X (n + 1) w v V
 |0, _, _, h => h.elim
 |n + 1, v, V, h => by
  obtain ⟨A, c, A1, c1, A2, c2, hv, h1, h2, h3, h4, h5, h6, hs, hd, hk, hd2⟩ := h
  exact ⟨A, c, A1, c1, A2, c2, hv, h1, h2, h3, h4, h5, h6, hs, hd, hk.imp (fun _ h => h) (VlAt.up n), hd2.imp (fun _ h => h) (VlAt.up n)⟩
theorem VlAt.form {X : Nat → Prop} {n : Nat} {w : World} {v : List Value} {V : Vl} (h : VlAt X n w v V) : ∃ A c A1 c1 A2 c2, v = vcells V.sc A c A1 V.keys.length c1 A2 V.kids.length c2 ∧ ScOk V.sc := by
 cases n with
 |zero => exact h.elim
 |succ n =>
  obtain ⟨A, c, A1, c1, A2, c2, hv, h1, h2, h3, h4, h5, h6, hs, hd, hk, hd2⟩ := h
  exact ⟨A, c, A1, c1, A2, c2, hv, hs⟩
theorem VlAt.bad (X : Nat → Prop) (n : Nat) (w : World) : VlAt X (n + 1) w (vcells Sc.none .none 0 .none 0 0 .none 0 0) Vl.bad :=
 ⟨.none, 0, .none, 0, .none, 0, rfl, Nat.le_refl _, Nat.zero_le _, Nat.le_refl _, Nat.zero_le _, Nat.le_refl _, Nat.zero_le _, ScOk.none, SegR.nil _ _ _, RowOf.nil _ _ _ _, RowOf.nil _ _ _ _⟩
/-- A row's element, cell by cell. -/
theorem row_cells {X : Nat → Prop} {w : World} {A : Option Addr} {cs v : List Value} {i : Nat} (h : SegR X w A cs) (hv : (cs.drop (i * 11)).take 11 = v) (hl : v.length = 11) :
  ∃ b o, A = some ⟨b, o, none⟩ ∧ b < w.heap.size ∧ ¬ X b ∧ ∀ r u, v[r]? = some u → w.cell? ⟨b, o + i * 11 + r, none⟩ = some u := by
 have hne : cs ≠ [] := by rintro rfl; simp at hv; subst hv; simp at hl
 obtain ⟨b, o, hA, hb, hX, hc⟩ := h hne
 refine ⟨b, o, hA, hb, hX, fun r u hu => ?_⟩
 rw [Nat.add_assoc]
 refine hc _ _ ?_
 rw [← hv, List.getElem?_take] at hu
 split at hu
 ·rwa [List.getElem?_drop] at hu
 ·cases hu
/-- A copy, of which parts may be cut off. -/
inductive VCut : Vl → Vl → Prop
 |bad (V : Vl) : VCut Vl.bad V
 |node (s : Sc) (ks ks' ds ds' : List Vl) (hl : ks'.length = ks.length) (hl' : ds'.length = ds.length) (h : ∀ (i : Nat) (a b : Vl), ks'[i]? = some a → ks[i]? = some b → VCut a b)
   (h' : ∀ (i : Nat) (a b : Vl), ds'[i]? = some a → ds[i]? = some b → VCut a b) : VCut (.mk s ks' ds') (.mk s ks ds)
end Go.Proofs.YtammjbmfiakbnaaGreatDoor
