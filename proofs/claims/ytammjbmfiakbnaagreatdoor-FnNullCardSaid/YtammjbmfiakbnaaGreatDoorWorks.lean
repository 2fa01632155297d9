/-
  impl.Marshal by the contracts of info, given and gocql.Marshal; native types; a smallint; 'works' of the laws answers true. Conditions: those contracts, as hypotheses.
-/
import Derived.Test.YtammjbmfiakbnaaGreatDoorDisp
import Derived.Test.YtammjbmfiakbnaaGreatDoorEnc
import Derived.Test.YtammjbmfiakbnaaGreatDoorQuiet
import Derived.Outline
import Derived.Deep.QuietTactic
import Derived.BigQuiet
import Derived.RegionTactic
import Derived.ChangeAlike
import Derived.Lib.Hide
namespace Go.Proofs.YtammjbmfiakbnaaGreatDoor
open Go.RowKit

theorem newNative (k : Int) (w : World) :
    Calls Tryz.prog 47 #[.int .u8 4, .int .i64 k, .string ⟨#[]⟩] w fun e w' => e = .returned (natT k) ∧ Ext w w' := by
  go_enter Tryz.func47, Tryz.ntmps47
  go_wp2
  exact bodyPost_ret (v := natT k) (by simp [results, Tryz.results47, go_sem]) rfl ⟨rfl, (((Ext.refl w).alloc _))⟩

set_option maxRecDepth 100000 in
theorem info_native (k : Int) (h1 : 1 ≤ k) (h2 : k ≤ 21) (h3 : k ≠ 10) (A : Option Addr) (c : Nat) (ns : Value) (w : World) :
    Calls Tryz.prog 25 #[.agg #[.int .i64 k, .slice A 0 c, ns]] w fun e w' => e = .returned (.tuple #[.iface 94 (natT k), .bool true]) ∧ Ext w w' := by
  have t1 : (k == 32) = false := by simp; omega
  have t2 : (k == 34) = false := by simp; omega
  have t3 : (k == 33) = false := by simp; omega
  have t4 : (k == 49) = false := by simp; omega
  have t5 : (k == 48) = false := by simp; omega
  have t6 : (k != 10) = true := by simp; omega
  have t7 : decide (1 ≤ k) = true := by simp; omega
  have t8 : decide (k ≤ 21) = true := by simp; omega
  go_enter Tryz.func25, Tryz.ntmps25
  go_wp2_with fail
  refine (newNative _ _).mono ?_
  rintro e w1 ⟨rfl, hx1⟩
  have hb1 := (Blk.new w 25 #[.int .i64 k, .slice A 0 c, ns]).ext hx1
  have hlt := hb1.lt
  obtain ⟨c0, c1, c2⟩ := hb1.c3
  clear hb1
  go_wp2_with fail
  refine wp_loop_once ?_
  go_wp2_with fail
  go_quiet (fail)
  go_wp2_with fail
  go_ret2
  exact ⟨rfl, ((((Ext.refl w).alloc _).trans hx1).alloc _).drewN _⟩

set_option maxRecDepth 100000 in
theorem given_19 (ks ns f s d sc mo da na kk vv : Value) (n : Int) (h0 : -32768 ≤ n) (h1 : n ≤ 32767) (w : World) :
    Calls Tryz.prog 26 #[.agg #[.int .i64 19, ks, ns], .agg #[.bool false, .int .i64 n, f, s, d, sc, mo, da, na, kk, vv]] w fun e w' => e = .returned (.tuple #[.iface 107 (.int .i16 n), .bool true]) ∧ Ext w w' := by
  go_enter Tryz.func26, Tryz.ntmps26
  go_wp2_with fail
  go_quiet (fail)
  go_wp2_with fail
  go_ret2
  exact ⟨rfl, (((Ext.refl w).alloc _).alloc _).drewN _⟩

set_option maxRecDepth 100000 in
theorem marshalSmall (x : Int) (info : Value) (w : World) :
    Calls Tryz.prog 55 #[info, .iface 107 (.int .i16 x)] w fun e w' => ∃ r, e = .returned (.tuple #[r, .nilIface]) ∧ Out [bt (x / 256), bt x] r w' ∧ Ext w w' := by
  go_enter Tryz.func55, Tryz.ntmps55
  go_wp2_with fail
  refine (encShort_any _ _).mono ?_
  rintro e w1 ⟨r, rfl, hr, hx⟩
  go_wp2_with fail
  go_ret2
  exact ⟨r, rfl, hr, hx⟩

theorem marshal_19 (x : Int) (w : World) :
    Calls Tryz.prog 27 #[.iface 94 (natT 19), .iface 107 (.int .i16 x)] w fun e w' => ∃ r, e = .returned (.tuple #[r, .nilIface]) ∧ Out [bt (x / 256), bt x] r w' ∧ Ext w w' :=
  disp_19 94 (natT 19) _ w (Out [bt (x / 256), bt x]) (fun W => me_94_Version _ _ _ W) (fun W => me_94_Type _ _ _ W) (fun W => as_107_128 _ W) (fun W _ => marshalSmall x _ W)

/-- impl.info answers with a type of which RI holds. -/
def InfoOK (tv : Value) (w : World) (RI : Value → World → Prop) : Prop :=
  ∀ W, Ext w W → Calls Tryz.prog 25 #[tv] W fun e w' => ∃ I, e = .returned (.tuple #[I, .bool true]) ∧ RI I w' ∧ Ext W w'
/-- impl.given answers with a value of which RG holds. -/
def GivenOK (tv vv : Value) (w : World) (RG : Value → World → Prop) : Prop :=
  ∀ W, Ext w W → Calls Tryz.prog 26 #[tv, vv] W fun e w' => ∃ G, e = .returned (.tuple #[G, .bool true]) ∧ RG G w' ∧ Ext W w'
/-- gocql.Marshal gives a slice of which P holds, and no error. -/
def MarshOK (w : World) (RI RG P : Value → World → Prop) : Prop :=
  ∀ I G W, Ext w W → RI I W → RG G W → Calls Tryz.prog 27 #[I, G] W fun e w' => ∃ r, e = .returned (.tuple #[r, .nilIface]) ∧ P r w' ∧ Ext W w'
/-- What holds goes on holding when memory grows. -/
def Stays (R : Value → World → Prop) : Prop := ∀ v W W', R v W → Ext W W' → R v W'
/-- What holds goes on holding when variables for slices and truth values are written. -/
def Keeps (R : Value → World → Prop) : Prop := ∀ v W W', R v W → Keep W W' → R v W'

set_option maxRecDepth 100000 in
theorem closure_any (bt_ bv bd bn bo : Nat) (t0 t1 t2 v0 v1 v2 v3 v4 v5 v6 v7 v8 v9 v10 : Value) (nul : Bool) (RI RG P : Value → World → Prop) (w0 w : World) (h0 : Hid (Ext w0 w))
    (hI : Hid (InfoOK (.agg #[t0, t1, t2]) w0 RI)) (hG : Hid (GivenOK (.agg #[t0, t1, t2]) (.agg #[v0, v1, v2, v3, v4, v5, v6, v7, v8, v9, v10]) w0 RG)) (hM : Hid (MarshOK w0 RI RG P))
    (sI : Hid (Stays RI)) (sP : Hid (Keeps P)) (hP : Hid (∀ r W, P r W → ∃ a n c, r = .slice a n c ∧ a.isNone = nul))
    (ht : Blk w bt_ 25 #[t0, t1, t2]) (hv : Blk w bv 30 #[v0, v1, v2, v3, v4, v5, v6, v7, v8, v9, v10])
    (hd : Blk w bd 27 #[.slice none 0 0]) (hn : Blk w bn 4 #[.bool false]) (ho : Blk w bo 4 #[.bool false]) (hne : bn ≠ bo) :
    Calls Tryz.prog 24 #[.pointer (some ⟨bt_, 0, none⟩), .pointer (some ⟨bv, 0, none⟩), .pointer (some ⟨bd, 0, none⟩), .pointer (some ⟨bn, 0, none⟩), .pointer (some ⟨bo, 0, none⟩)] w
      fun e w' => e = .returned (.tuple #[]) ∧ ∃ w1 r, Ext w w1 ∧ P r w1 ∧ w' = ((w1.setCell ⟨bd, 0, none⟩ r).setCell ⟨bn, 0, none⟩ (.bool nul)).setCell ⟨bo, 0, none⟩ (.bool true) := by
  obtain ⟨a0, a1, a2⟩ := ht.c3
  obtain ⟨u0, u1, u2, u3, u4, u5, u6, u7, u8, u9, u10⟩ := hv.c11
  go_enter Tryz.func24, Tryz.ntmps24
  go_wp2_with fail
  refine (hI.out _ h0.out).mono ?_
  rintro e w1 ⟨I, rfl, hI1, hx1⟩
  obtain ⟨a0', a1', a2'⟩ := (ht.ext hx1).c3
  obtain ⟨u0', u1', u2', u3', u4', u5', u6', u7', u8', u9', u10'⟩ := (hv.ext hx1).c11
  go_wp2_with fail
  refine (hG.out _ (h0.out.trans hx1)).mono ?_
  rintro e w2 ⟨G, rfl, hG2, hx2⟩
  clear a0 a1 a2 a0' a1' a2' u0 u1 u2 u3 u4 u5 u6 u7 u8 u9 u10 u0' u1' u2' u3' u4' u5' u6' u7' u8' u9' u10'
  go_wp2_with fail
  refine (hM.out _ _ _ ((h0.out.trans hx1).trans hx2) (sI.out _ _ _ hI1 hx2) hG2).mono ?_
  rintro e w3 ⟨r, rfl, hr, hx3⟩
  obtain ⟨a, n, c, hra, hnul⟩ := hP.out _ _ hr
  have hx := (hx1.trans hx2).trans hx3
  obtain ⟨d0, d1⟩ := (hd.ext hx).c1
  obtain ⟨n0, n1⟩ := (hn.ext hx).c1
  obtain ⟨o0, o1⟩ := (ho.ext hx).c1
  have hdn := (hd.ext hx).ne (hn.ext hx) (by decide)
  have hdo := (hd.ext hx).ne (ho.ext hx) (by decide)
  have hq : ∀ W : World, (binOp .eql 27 (.slice a n c) (.slice none 0 0)).run Tryz.prog W = .ok (.bool nul) W := fun W => by
    rw [← hnul]
    exact Lib.run_eql_slice_nil W 27 5 a n c 0 0 Tryz.underlying27
  rw [hra]
  have Hra := Lib.hid hra
  have Hr := Lib.hid hr
  clear hra hnul hr
  go_wp2_with fail
  go_region
  go_end0
  exact ⟨rfl, w3.drew, _, hx.drew, sP.out _ _ _ (Hra.out ▸ Hr.out) (Ext.refl _).drew.keep, rfl⟩

/-- What the closure leaves: the three variables, and whatever held. -/
def Left (w : World) (P : Value → World → Prop) (bd bn bo : Nat) (nul : Bool) (w' : World) : Prop :=
  ∃ w1 r, Ext w w1 ∧ P r w1 ∧ Blk w1 bd 27 #[.slice none 0 0] ∧ Blk w1 bn 4 #[.bool false] ∧ Blk w1 bo 4 #[.bool false] ∧ w' = ((w1.setCell ⟨bd, 0, none⟩ r).setCell ⟨bn, 0, none⟩ (.bool nul)).setCell ⟨bo, 0, none⟩ (.bool true)

/-- The same, with the variable that tells whether all went well. -/
def LeftB (w : World) (P : Value → World → Prop) (b5 bd bn bo : Nat) (nul : Bool) (w' : World) : Prop := Left w P bd bn bo nul w' ∧ Blk w' b5 4 #[.bool false]

set_option maxRecDepth 100000 in
theorem marshalTop (t0 t1 t2 v0 v1 v2 v3 v4 v5 v6 v7 v8 v9 v10 : Value) (nul : Bool) (RI RG P : Value → World → Prop) (w : World)
    (hI : Hid (InfoOK (.agg #[t0, t1, t2]) w RI)) (hG : Hid (GivenOK (.agg #[t0, t1, t2]) (.agg #[v0, v1, v2, v3, v4, v5, v6, v7, v8, v9, v10]) w RG)) (hM : Hid (MarshOK w RI RG P))
    (sI : Hid (Stays RI)) (sP : Hid (Keeps P)) (hP : Hid (∀ r W, P r W → ∃ a n c, r = .slice a n c ∧ a.isNone = nul)) :
    Calls Tryz.prog 13 #[.agg #[t0, t1, t2], .agg #[v0, v1, v2, v3, v4, v5, v6, v7, v8, v9, v10]] w
      fun e w' => ∃ r, e = .returned (.tuple #[r, .bool nul, .bool true]) ∧ P r w' ∧ Ext w w' := by
  have hmf : ∀ (fn : Fn) (first cap : Array Value) (w : World), (Instr.makeFunc fn first cap).run Tryz.prog w = .ok (.func fn first cap) w := fun _ _ _ _ => rfl
  go_enter Tryz.func13, Tryz.ntmps13
  go_wp2_with fail
  have hq : Hid (Calls Tryz.prog 24 #[.pointer (some ⟨w.heap.size, 0, none⟩), .pointer (some ⟨w.heap.size + 1, 0, none⟩), .pointer (some ⟨w.heap.size + 1 + 1, 0, none⟩), .pointer (some ⟨w.heap.size + 1 + 1 + 1, 0, none⟩), .pointer (some ⟨w.heap.size + 1 + 1 + 1 + 1, 0, none⟩)]
      ((((((w.alloc (.cells #[t0, t1, t2] 25)).alloc (.cells #[v0, v1, v2, v3, v4, v5, v6, v7, v8, v9, v10] 30)).alloc (.cells #[.slice none 0 0] 27)).alloc (.cells #[.bool false] 4)).alloc (.cells #[.bool false] 4)).alloc (.cells #[.bool false] 4))
      fun e w' => e = .returned (.tuple #[]) ∧ LeftB w P (w.heap.size + 1 + 1 + 1 + 1 + 1) (w.heap.size + 1 + 1) (w.heap.size + 1 + 1 + 1) (w.heap.size + 1 + 1 + 1 + 1) nul w' ∧ Blk w' (w.heap.size + 1 + 1 + 1 + 1 + 1) 4 #[.bool false]) := by
    have hw0 : Ext w ((((((w.alloc (.cells #[t0, t1, t2] 25)).alloc (.cells #[v0, v1, v2, v3, v4, v5, v6, v7, v8, v9, v10] 30)).alloc (.cells #[.slice none 0 0] 27)).alloc (.cells #[.bool false] 4)).alloc (.cells #[.bool false] 4)).alloc (.cells #[.bool false] 4)) :=
      ((((((Ext.refl w).alloc _).alloc _).alloc _).alloc _).alloc _).alloc _
    have ht := (((((Blk.new w 25 #[t0, t1, t2]).alloc (.cells #[v0, v1, v2, v3, v4, v5, v6, v7, v8, v9, v10] 30)).alloc (.cells #[.slice none 0 0] 27)).alloc (.cells #[.bool false] 4)).alloc (.cells #[.bool false] 4)).alloc (.cells #[.bool false] 4)
    have hv := ((((Blk.new' (w.alloc (.cells #[t0, t1, t2] 25)) (w.heap.size + 1) 30 #[v0, v1, v2, v3, v4, v5, v6, v7, v8, v9, v10] (by simp)).alloc (.cells #[.slice none 0 0] 27)).alloc (.cells #[.bool false] 4)).alloc (.cells #[.bool false] 4)).alloc (.cells #[.bool false] 4)
    have hd := (((Blk.new' ((w.alloc (.cells #[t0, t1, t2] 25)).alloc (.cells #[v0, v1, v2, v3, v4, v5, v6, v7, v8, v9, v10] 30)) (w.heap.size + 1 + 1) 27 #[.slice none 0 0] (by simp)).alloc (.cells #[.bool false] 4)).alloc (.cells #[.bool false] 4)).alloc (.cells #[.bool false] 4)
    have hn := ((Blk.new' (((w.alloc (.cells #[t0, t1, t2] 25)).alloc (.cells #[v0, v1, v2, v3, v4, v5, v6, v7, v8, v9, v10] 30)).alloc (.cells #[.slice none 0 0] 27)) (w.heap.size + 1 + 1 + 1) 4 #[.bool false] (by simp)).alloc (.cells #[.bool false] 4)).alloc (.cells #[.bool false] 4)
    have ho := (Blk.new' ((((w.alloc (.cells #[t0, t1, t2] 25)).alloc (.cells #[v0, v1, v2, v3, v4, v5, v6, v7, v8, v9, v10] 30)).alloc (.cells #[.slice none 0 0] 27)).alloc (.cells #[.bool false] 4)) (w.heap.size + 1 + 1 + 1 + 1) 4 #[.bool false] (by simp)).alloc (.cells #[.bool false] 4)
    have h5 := Blk.new' (((((w.alloc (.cells #[t0, t1, t2] 25)).alloc (.cells #[v0, v1, v2, v3, v4, v5, v6, v7, v8, v9, v10] 30)).alloc (.cells #[.slice none 0 0] 27)).alloc (.cells #[.bool false] 4)).alloc (.cells #[.bool false] 4)) (w.heap.size + 1 + 1 + 1 + 1 + 1) 4 #[.bool false] (by simp)
    generalize ((((((w.alloc (.cells #[t0, t1, t2] 25)).alloc (.cells #[v0, v1, v2, v3, v4, v5, v6, v7, v8, v9, v10] 30)).alloc (.cells #[.slice none 0 0] 27)).alloc (.cells #[.bool false] 4)).alloc (.cells #[.bool false] 4)).alloc (.cells #[.bool false] 4)) = W at *
    refine (closure_any _ _ _ _ _ t0 t1 t2 v0 v1 v2 v3 v4 v5 v6 v7 v8 v9 v10 nul RI RG P w W hw0 hI hG hM sI sP hP ht hv hd hn ho (by omega)).mono ?_
    rintro e w' ⟨he, w1, r, hx, hr, rfl⟩
    have h6 := (((h5.ext hx).off (b := w.heap.size + 1 + 1) (o := 0) (by omega) r).off (b := w.heap.size + 1 + 1 + 1) (o := 0) (by omega) (.bool nul)).off (b := w.heap.size + 1 + 1 + 1 + 1) (o := 0) (by omega) (.bool true)
    exact ⟨he, ⟨⟨w1, r, hw0.trans hx, hr, hd.ext hx, hn.ext hx, ho.ext hx, rfl⟩, h6⟩, h6⟩
  refine (quietly_24 _ _ _ _ (by simp) hq.out).mono ?_
  rintro e w1 ⟨rfl, w2, ⟨⟨w3, r, hx, hr, hbd, hbn, hbo, rfl⟩, hb5⟩, rfl⟩
  have hbd1 := hbd.set_ 0 r
  have hbn1 := hbn.off (b := w.heap.size + 1 + 1) (o := 0) (by omega) r
  have hbo1 := hbo.off (b := w.heap.size + 1 + 1) (o := 0) (by omega) r
  have hbd2 := hbd1.off (b := w.heap.size + 1 + 1 + 1) (o := 0) (by omega) (.bool nul)
  have hbn2 := hbn1.set_ 0 (.bool nul)
  have hbo2 := hbo1.off (b := w.heap.size + 1 + 1 + 1) (o := 0) (by omega) (.bool nul)
  have hbd3 := hbd2.off (b := w.heap.size + 1 + 1 + 1 + 1) (o := 0) (by omega) (.bool true)
  have hbn3 := hbn2.off (b := w.heap.size + 1 + 1 + 1 + 1) (o := 0) (by omega) (.bool true)
  have hbo3 := hbo2.set_ 0 (.bool true)
  have hbd4 := hbd3.off (b := w.heap.size + 1 + 1 + 1 + 1 + 1) (o := 0) (by omega) (.bool true)
  have hbn4 := hbn3.off (b := w.heap.size + 1 + 1 + 1 + 1 + 1) (o := 0) (by omega) (.bool true)
  have hbo4 := hbo3.off (b := w.heap.size + 1 + 1 + 1 + 1 + 1) (o := 0) (by omega) (.bool true)
  have hxf := (((hx.setCell (p := ⟨w.heap.size + 1 + 1, 0, none⟩) (by simp; omega) r).setCell (p := ⟨w.heap.size + 1 + 1 + 1, 0, none⟩) (by simp; omega) (.bool nul)).setCell (p := ⟨w.heap.size + 1 + 1 + 1 + 1, 0, none⟩) (by simp; omega) (.bool true)).setCell (p := ⟨w.heap.size + 1 + 1 + 1 + 1 + 1, 0, none⟩) (by simp; omega) (.bool true)
  have hk := ((((Ext.refl w3).keep.setCell hbd (.inl rfl) r).setCell hbn1 (.inr rfl) (.bool nul)).setCell hbo2 (.inr rfl) (.bool true)).setCell hb5 (.inr rfl) (.bool true)
  have hPf := sP.out _ _ _ hr hk
  clear hbd1 hbn1 hbo1 hbd2 hbn2 hbo2 hbd3 hbn3 hbo3 hbd hbn hbo hb5 hk hq hr hx
  obtain ⟨a, n, c, hra, hnul⟩ := hP.out _ _ hPf
  generalize (((w3.setCell ⟨w.heap.size + 1 + 1, 0, none⟩ r).setCell ⟨w.heap.size + 1 + 1 + 1, 0, none⟩ (.bool nul)).setCell ⟨w.heap.size + 1 + 1 + 1 + 1, 0, none⟩ (.bool true)).setCell ⟨w.heap.size + 1 + 1 + 1 + 1 + 1, 0, none⟩ (.bool true) = Wf at *
  have HPf := Lib.hid hPf
  clear hPf
  obtain ⟨d0, d1⟩ := hbd4.c1
  obtain ⟨n0, n1⟩ := hbn4.c1
  obtain ⟨o0, o1⟩ := hbo4.c1
  rw [hra] at d0
  have Hra := Lib.hid hra
  have Hhx := Lib.hid hxf
  have Hbd := Lib.hid hbd4
  have Hbn := Lib.hid hbn4
  have Hbo := Lib.hid hbo4
  have s0 : w.heap.size + 1 + 1 ≠ w.heap.size + 1 + 1 + 1 := by omega
  clear hra hnul hbd4 hbn4 hbo4 hxf
  go_wp2_with fail
  go_region
  go_wp2_with fail
  have q1 := Hbd.out.set_ 0 (.slice a n c)
  have q2 := Hbn.out.off (b := w.heap.size + 1 + 1) (o := 0) (by omega) (.slice a n c)
  have q3 := Hbo.out.off (b := w.heap.size + 1 + 1) (o := 0) (by omega) (.slice a n c)
  have q4 := q1.off (b := w.heap.size + 1 + 1 + 1) (o := 0) (by omega) (.bool nul)
  have q5 := q2.set_ 0 (.bool nul)
  have q6 := q3.off (b := w.heap.size + 1 + 1 + 1) (o := 0) (by omega) (.bool nul)
  have q7 := q4.off (b := w.heap.size + 1 + 1 + 1 + 1) (o := 0) (by omega) (.bool true)
  have q8 := q5.off (b := w.heap.size + 1 + 1 + 1 + 1) (o := 0) (by omega) (.bool true)
  have q9 := q6.set_ 0 (.bool true)
  have g1 := (q7.drew.c1).1
  have g2 := (q8.drew.c1).1
  have g3 := (q9.drew.c1).1
  have hk := (((Ext.refl Wf).keep.setCell Hbd.out (.inl rfl) (.slice a n c)).setCell q2 (.inr rfl) (.bool nul)).setCell q6 (.inr rfl) (.bool true)
  have hPf := sP.out _ _ _ (sP.out _ _ _ HPf.out hk) (Ext.refl _).drew.keep
  have hxf := (((Hhx.out.setCell (p := ⟨w.heap.size + 1 + 1, 0, none⟩) (by simp; omega) (.slice a n c)).setCell (p := ⟨w.heap.size + 1 + 1 + 1, 0, none⟩) (by simp; omega) (.bool nul)).setCell (p := ⟨w.heap.size + 1 + 1 + 1 + 1, 0, none⟩) (by simp; omega) (.bool true)).drew
  exact bodyPost_ret (v := .tuple #[.slice a n c, .bool nul, .bool true]) (by simp [results, Tryz.results13, go_sem, g1, g2, g3]) rfl ⟨r, by rw [Hra.out], hPf, hxf⟩

theorem Out.keeps (l : List UInt8) : Keeps (Out l) := fun _ _ _ h k => h.keep k
theorem Out.slices {l : List UInt8} (r : Value) (W : World) (h : Out l r W) : ∃ a n c, r = .slice a n c ∧ a.isNone = false := by
  obtain ⟨b, o, c, _, _, _, rfl, _⟩ := h
  exact ⟨_, _, _, rfl, rfl⟩

theorem marshalTop_19 (n : Int) (h0 : -32768 ≤ n) (h1 : n ≤ 32767) (A : Option Addr) (c : Nat) (ns f s d sc mo da na kk vv : Value) (w : World) :
    Calls Tryz.prog 13 #[.agg #[.int .i64 19, .slice A 0 c, ns], .agg #[.bool false, .int .i64 n, f, s, d, sc, mo, da, na, kk, vv]] w
      fun e w' => ∃ r, e = .returned (.tuple #[r, .bool false, .bool true]) ∧ Out [bt (n / 256), bt n] r w' ∧ Ext w w' :=
  marshalTop _ _ _ _ _ _ _ _ _ _ _ _ _ _ false (fun v _ => v = .iface 94 (natT 19)) (fun v _ => v = .iface 107 (.int .i16 n)) (Out [bt (n / 256), bt n]) w
    (fun W _ => (info_native 19 (by omega) (by omega) (by omega) A c ns W).mono fun _ _ ⟨h, k⟩ => ⟨_, h, rfl, k⟩)
    (fun W _ => (given_19 _ _ _ _ _ _ _ _ _ _ _ n h0 h1 W).mono fun _ _ ⟨h, k⟩ => ⟨_, h, rfl, k⟩)
    (fun I G W _ hI hG => by subst hI; subst hG; exact marshal_19 n W)
    (fun _ _ _ h _ => h) (Out.keeps _) (fun r W h => Out.slices r W h)

set_option maxRecDepth 100000 in
theorem works_any (w : World) : Calls Tryz.prog 12 #[] w fun e w' => e = .returned (.bool true) ∧ Ext w w' := by
  go_enter Tryz.func12, Tryz.ntmps12
  go_wp2_with fail
  refine (marshalTop_19 258 (by omega) (by omega) none 0 _ _ _ _ _ _ _ _ _ _ _).mono ?_
  rintro e w1 ⟨_, rfl, hr, hx⟩
  have hl : [bt (258 / 256), bt 258] = [1, 2] := by decide
  rw [hl] at hr
  have hby := hr.bytes
  obtain ⟨b, o, c, rfl, _, _, _⟩ := hr.form
  have hs : (convert 27 9 (.slice (some ⟨b, o, none⟩) 2 c)).run Tryz.prog w1 = .ok (.string ⟨#[1, 2]⟩) w1 := hby.toStr (P := Tryz.prog) 27 5 9 Tryz.underlying27 Tryz.underlying5 Tryz.underlying9
  clear hl hby hr
  go_wp2_with fail
  go_ret
  exact ⟨rfl, hx⟩
end Go.Proofs.YtammjbmfiakbnaaGreatDoor
