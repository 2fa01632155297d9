/- A part of the proof that the card of laws.FnMarshal holds. No conditions. -/
import Derived.Test.YtammjbmfiakbnaaGreatDoorSam
set_option linter.unusedSimpArgs false
set_option linter.unusedVariables false
namespace Go.Proofs.YtammjbmfiakbnaaGreatDoor
open Go.RowKit
/-- Apart's contract. -/
def ApartP (n : Nat) : Prop := ∀ (m m2 : Nat) (w : World) (tv : Value) (T : Ty) (vs : List Value) (V : Vl), TyAt (fun _ => False) m w tv T → VlAt (fun _ => False) m2 w vs V → Good n T → GoodV n T V →
 Calls Tryz.prog 22 #[tv, .agg vs.toArray] w (AnsB (fun _ => True) w)
set_option maxRecDepth 100000 in
set_option maxHeartbeats 16000000 in
theorem apart_leaf (n : Nat) (hn5 : n + 1 ≤ 5) (hp : ApartP n) (m m2 : Nat) (w : World) (tv : Value) (T : Ty) (vs : List Value) (V : Vl) (hT : TyAt (fun _ => False) m w tv T) (hV : VlAt (fun _ => False) m2 w vs V) (hG : Good (n + 1) T) (hg : GoodV (n + 1) T V) (h : T.kind < 32) :
  Calls Tryz.prog 22 #[tv, .agg vs.toArray] w (AnsB (fun _ => True) w) := by
 obtain ⟨B, bc, B', bc', rfl⟩ := hT.form
 cases m2 with
 |zero => exact hV.elim
 |succ m2 =>
 cases m with
 |zero => exact hT.elim
 |succ m =>
 have hn := hg.1
 have gk : V.keys = [] ∧ V.kids = [] := by
  obtain ⟨-, h20, hg⟩ := hg
  rcases hg with ⟨_, h1, h2, _⟩ | ⟨h', _⟩ | ⟨h', _⟩ | ⟨h', _⟩
  ·exact ⟨h2, h1⟩
  ·omega
  ·omega
  ·omega
 have hk0 : V.keys.length = 0 := by rw [gk.1]; rfl
 have hd0 : V.kids.length = 0 := by rw [gk.2]; rfl
 clear gk
 obtain ⟨A, c, A1, c1, A2, c2, rfl, q1, q2, q3, q4, q5, q6, hs, hd, hrow1, hrow⟩ := hV
 have HR := Lib.hid hrow
 have HR1 := Lib.hid hrow1
 have Hp := Lib.hid hp
 clear hT hs hG hd hg hrow hrow1 hp
 simp only [vcells]
 rw [hn]
 rw [hk0, hd0]
 unfold maxLen at q2 q4 q6
 go_enter Tryz.func22, Tryz.ntmps22
 go_upto_region 1 with fail
 generalize hW : World.alloc (World.alloc w _) _ = W
 have h0 : Blk W w.heap.size 35 #[.int .i64 T.kind, .slice B T.kids.length bc, .slice B' T.names.length bc'] ∧ Blk W (w.heap.size + 1) 39 #[.bool false, .int .i64 V.sc.n, .float .f64 V.sc.f, .string V.sc.text, .slice A V.sc.data.length c, .int .i64 V.sc.scale, .int .i64 V.sc.months, .int .i64 V.sc.days, .int .i64 V.sc.nanos, .slice A1 0 c1, .slice A2 0 c2] ∧ Ext w W := by
  rw [← hW]
  exact ⟨(Blk.new w 35 _).alloc _, Blk.new' _ _ 39 _ (by simp), ((Ext.refl w).alloc _).alloc _⟩
 clear hW
 obtain ⟨hb1, hb2, hE⟩ := h0
 have hlt := hb2.lt
 have HE := Lib.hid hE
 have HB1 := Lib.hid hb1
 have HB2 := Lib.hid hb2
 obtain ⟨b0, b1, b2⟩ := hb1.c3
 obtain ⟨d0, d1, d2, d3, d4, d5, d6, d7, d8, d9, d10⟩ := hb2.c11
 clear hb1 hb2 hE
 go_wp2_with fail
 go_loopw [13] (fun v wr => v = .int .i64 0 ∧ W = wr) (fun _ _ => 0)
 case atStart => exact ⟨rfl, rfl⟩
 case round =>
  obtain ⟨rfl, hw⟩ := hrel
  subst hw
  go_wp2_with fail
  go_loopw [55] (fun v wr => v = .int .i64 0 ∧ W = wr) (fun _ _ => 0)
  case atStart => exact ⟨rfl, rfl⟩
  case round =>
   obtain ⟨rfl, hw⟩ := hrel
   subst hw
   go_wp2_with fail
   go_ret
   exact AnsB.mk trivial HE.out
set_option maxRecDepth 100000 in
set_option maxHeartbeats 16000000 in
theorem apart_seq32 (n : Nat) (hn5 : n + 1 ≤ 5) (hp : ApartP n) (m m2 : Nat) (w : World) (tv : Value) (T : Ty) (vs : List Value) (V : Vl) (hT : TyAt (fun _ => False) m w tv T) (hV : VlAt (fun _ => False) m2 w vs V) (hG : Good (n + 1) T) (hg : GoodV (n + 1) T V) (h : T.kind = 32) :
  Calls Tryz.prog 22 #[tv, .agg vs.toArray] w (AnsB (fun _ => True) w) := by
 obtain ⟨B, bc, B', bc', rfl⟩ := hT.form
 cases m2 with
 |zero => exact hV.elim
 |succ m2 =>
 cases m with
 |zero => exact hT.elim
 |succ m =>
 have hn := hg.1
 have hl1 : T.kids.length = 1 := by
  have := hG.2
  unfold Shape at this
  omega
 have hkt : T.kids[0]? = some T.kids[0] := List.getElem?_eq_getElem (by omega)
 have hkg : Good n T.kids[0] := hG.1 _ (List.getElem_mem _)
 generalize T.kids[0] = kt at hkt hkg
 have HT := Lib.hid (tkid_at hT hkt)
 have gk : V.keys = [] ∧ ∀ k ∈ V.kids, GoodV n kt k := by
  obtain ⟨-, h20, hg⟩ := hg
  rcases hg with ⟨h', _⟩ | ⟨_, hk, t, ht, hall⟩ | ⟨h', _⟩ | ⟨h', _⟩
  ·omega
  ·rw [hkt] at ht
   injection ht with ht
   subst ht
   exact ⟨hk, hall⟩
  ·omega
  ·omega
 have hk0 : V.keys.length = 0 := by rw [gk.1]; rfl
 have Hgk := Lib.hid gk.2
 have Hkg := Lib.hid hkg
 have hpos : 0 < T.kids.length := by omega
 clear gk hkt hkg hl1
 obtain ⟨A, c, A1, c1, A2, c2, rfl, q1, q2, q3, q4, q5, q6, hs, hd, hrow1, hrow⟩ := hV
 have HR := Lib.hid hrow
 have HR1 := Lib.hid hrow1
 have Hp := Lib.hid hp
 clear hT hs hG hd hg hrow hrow1 hp
 simp only [vcells]
 rw [hn]
 rw [hk0]
 unfold maxLen at q2 q4 q6
 go_enter Tryz.func22, Tryz.ntmps22
 have t32 : (T.kind == 32) = true := by simp [h]
 have t34 : (T.kind == 34) = false := by simp [h]
 have t33 : (T.kind == 33) = false := by simp [h]
 have t49 : (T.kind == 49) = false := by simp [h]
 have t48 : (T.kind == 48) = false := by simp [h]
 clear h
 go_upto_region 1 with fail
 generalize hW : World.alloc (World.alloc w _) _ = W
 have h0 : Blk W w.heap.size 35 #[.int .i64 T.kind, .slice B T.kids.length bc, .slice B' T.names.length bc'] ∧ Blk W (w.heap.size + 1) 39 #[.bool false, .int .i64 V.sc.n, .float .f64 V.sc.f, .string V.sc.text, .slice A V.sc.data.length c, .int .i64 V.sc.scale, .int .i64 V.sc.months, .int .i64 V.sc.days, .int .i64 V.sc.nanos, .slice A1 0 c1, .slice A2 V.kids.length c2] ∧ Ext w W := by
  rw [← hW]
  exact ⟨(Blk.new w 35 _).alloc _, Blk.new' _ _ 39 _ (by simp), ((Ext.refl w).alloc _).alloc _⟩
 clear hW
 obtain ⟨hb1, hb2, hE⟩ := h0
 have hlt := hb2.lt
 have HE := Lib.hid hE
 have HB1 := Lib.hid hb1
 have HB2 := Lib.hid hb2
 obtain ⟨b0, b1, b2⟩ := hb1.c3
 obtain ⟨d0, d1, d2, d3, d4, d5, d6, d7, d8, d9, d10⟩ := hb2.c11
 clear hb1 hb2 hE
 go_wp2_with fail
 go_loopw [13] (fun v wr => v = .int .i64 0 ∧ W = wr) (fun _ _ => 0)
 case atStart => exact ⟨rfl, rfl⟩
 case round =>
  obtain ⟨rfl, hw⟩ := hrel
  subst hw
  go_wp2_with fail
  clear b0 b1 b2 d0 d1 d2 d3 d4 d5 d6 d7 d8 d9 d10
  go_loopw [55] (fun v wr => ∃ i : Nat, i ≤ V.kids.length ∧ v = .int .i64 i ∧ Ext W wr) (fun v _ => V.kids.length - (intOf v).toNat)
  case atStart => exact ⟨0, Nat.zero_le _, rfl, Ext.refl _⟩
  case round =>
   obtain ⟨i, hi, rfl, hEw⟩ := hrel
   have HW := Lib.hid hEw
   have HX := Lib.hid (HE.out.trans hEw)
   clear hEw
   by_cases hlti : (i : Int) < V.kids.length
   ·have hi' : i < V.kids.length := by omega
    have hka : V.kids[i]? = some V.kids[i] := List.getElem?_eq_getElem hi'
    have Hga := Lib.hid (Or.inr (a := V.kids[i].sc.nul = true) (Hgk.out V.kids[i] (List.getElem_mem hi')))
    obtain ⟨tb, tx, yA, yc, yA', yc', hB, htb, hty, f0, f1, f2⟩ := HT.out
    rw [Nat.zero_mul, Nat.add_zero] at f0 f1 f2
    subst hB
    have Hty := Lib.hid hty
    obtain ⟨g1, o1, xA, xc, xA1, xc1, xA2, xc2, hA, hb1, hx1, hr1⟩ := kid_at HR.out hka
    generalize V.kids[i] = ka at hka hx1 hr1 Hga
    subst hA
    have Hx1 := Lib.hid hx1
    have hr1' : wr.rangeAt g1 (o1 + i * 11) (vcells ka.sc xA xc xA1 ka.keys.length xc1 xA2 ka.kids.length xc2) := fun j u hu => HX.out.cellS (hr1 j u hu)
    have Hr1 := Lib.hid hr1'
    clear hka hx1 hr1 hr1' hty
    go_upto_region 15 with fail
    refine wp_region_lit ?_
    iterate 2 (refine wpList_plain rfl (fun K hK => ?_); go_simp; refine hK _ _ ?_; clear hK K; try simp only [aP, aN, aT, aZ, aS])
    refine wpList_load_mid rfl 39 _ rfl g1 (o1 + i * 11) (by rfl) (vcells ka.sc xA xc xA1 ka.keys.length xc1 xA2 ka.kids.length xc2) _ Hr1.out Tryz.underlying39 rfl hi39 ?_
    try simp only [aP, aN, aT, aZ, aS]
    iterate 2 (refine wpList_plain rfl (fun K hK => ?_); go_simp; refine hK _ _ ?_; clear hK K; try simp only [aP, aN, aT, aZ, aS])
    refine wpList_store_mid rfl 39 _ _ rfl wr.heap.size 0 (vcells ka.sc xA xc xA1 ka.keys.length xc1 xA2 ka.kids.length xc2).toArray (by rfl) (by rfl) ((Blk.new wr 39 #[.bool false, .int .i64 0, .float .f64 0, .string ⟨#[]⟩, .slice none 0 0, .int .i64 0, .int .i64 0, .int .i64 0, .int .i64 0, .slice none 0 0, .slice none 0 0]).there rfl) hi39 (by simp [vcells, Value.oneCell']) ?_
    generalize hW1 : World.setCells _ _ _ _ = W1
    have hB1 : Blk W1 wr.heap.size 39 (vcells ka.sc xA xc xA1 ka.keys.length xc1 xA2 ka.kids.length xc2).toArray := by
     rw [← hW1]
     exact Blk.setCells (Blk.new wr 39 #[.bool false, .int .i64 0, .float .f64 0, .string ⟨#[]⟩, .slice none 0 0, .int .i64 0, .int .i64 0, .int .i64 0, .int .i64 0, .slice none 0 0, .slice none 0 0]) rfl
    have hE1 : Ext wr W1 := by
     rw [← hW1]
     exact setCells_ext (Nat.le_refl _) _ _ _ ((Ext.refl wr).alloc _)
    have HE1 := Lib.hid hE1
    have HX1 := Lib.hid (HX.out.trans hE1)
    have HW1 := Lib.hid (HW.out.trans hE1)
    clear hW1 hE1
    obtain ⟨k0, k1, k2, k3, k4, k5, k6, k7, k8, k9, k10⟩ := Blk.c11 (show Blk W1 wr.heap.size 39 #[.bool ka.sc.nul, .int .i64 ka.sc.n, .float .f64 ka.sc.f, .string ka.sc.text, .slice xA ka.sc.data.length xc, .int .i64 ka.sc.scale, .int .i64 ka.sc.months, .int .i64 ka.sc.days, .int .i64 ka.sc.nanos, .slice xA1 ka.keys.length xc1, .slice xA2 ka.kids.length xc2] from hB1)
    obtain ⟨c0, c1', c2'⟩ := (HB1.out.ext HW1.out).c3
    have hltz : wr.heap.size < W1.heap.size := hB1.lt
    have hltw : w.heap.size + 1 < W1.heap.size := (HB2.out.ext HW1.out).lt
    have hlw0 : w.heap.size < W1.heap.size := by omega
    have hltb : tb < W1.heap.size := Nat.lt_of_lt_of_le htb HX1.out.size
    have j0 : W1.cell? ⟨tb, tx, none⟩ = some (.int .i64 kt.kind) := HX1.out.cellS f0
    have j1 : W1.cell? ⟨tb, tx + 1, none⟩ = some (.slice yA kt.kids.length yc) := HX1.out.cellS f1
    have j2 : W1.cell? ⟨tb, tx + 2, none⟩ = some (.slice yA' kt.names.length yc') := HX1.out.cellS f2
    have hcall : ka.sc.nul = false → ∀ wz, Ext W1 wz → _ := fun hn wz he => Hp.out m m2 wz _ kt _ ka (TyAt.onx (Onx.of_ext (HX1.out.trans he) _) _ _ _ Hty.out) (VlAt.onx (Onx.of_ext (HX1.out.trans he) _) _ _ _ Hx1.out) Hkg.out (Hga.out.resolve_left (by rw [hn]; exact Bool.false_ne_true))
    have Hcall := Lib.hid hcall
    clear hB1 f0 f1 f2 hcall
    cases hnul : ka.sc.nul with
    |true =>
     rw [hnul] at k0
     go_wp2_with fail
     go_roundw
     case rel => exact ⟨i + 1, by omega, by go_num, HW1.out.alloc _⟩
     case measure => simp [intOf]; omega
    |false =>
     rw [hnul] at k0
     have hc := Hcall.out hnul
     simp only [vcells, hnul] at hc
     have Hc := Lib.hid hc
     clear hc Hcall
     go_wp2_with fail
     refine (Hc.out _ ((Ext.refl _).alloc _)).mono ?_
     rintro e w2 ⟨b2, rfl, -, he2⟩
     have He2 := Lib.hid (Ext.trans (HW1.out.alloc _) he2)
     clear he2
     cases b2 with
     |false =>
      go_wp2_with fail
      go_ret
      exact AnsB.mk trivial (HE.out.trans He2.out)
     |true =>
      go_wp2_with fail
      go_roundw
      case rel => exact ⟨i + 1, by omega, by go_num, He2.out⟩
      case measure => simp [intOf]; omega
   ·go_wp2_with fail
    go_ret
    exact AnsB.mk trivial HX.out
set_option maxRecDepth 100000 in
set_option maxHeartbeats 16000000 in
theorem apart_seq34 (n : Nat) (hn5 : n + 1 ≤ 5) (hp : ApartP n) (m m2 : Nat) (w : World) (tv : Value) (T : Ty) (vs : List Value) (V : Vl) (hT : TyAt (fun _ => False) m w tv T) (hV : VlAt (fun _ => False) m2 w vs V) (hG : Good (n + 1) T) (hg : GoodV (n + 1) T V) (h : T.kind = 34) :
  Calls Tryz.prog 22 #[tv, .agg vs.toArray] w (AnsB (fun _ => True) w) := by
 obtain ⟨B, bc, B', bc', rfl⟩ := hT.form
 cases m2 with
 |zero => exact hV.elim
 |succ m2 =>
 cases m with
 |zero => exact hT.elim
 |succ m =>
 have hn := hg.1
 have hl1 : T.kids.length = 1 := by
  have := hG.2
  unfold Shape at this
  omega
 have hkt : T.kids[0]? = some T.kids[0] := List.getElem?_eq_getElem (by omega)
 have hkg : Good n T.kids[0] := hG.1 _ (List.getElem_mem _)
 generalize T.kids[0] = kt at hkt hkg
 have HT := Lib.hid (tkid_at hT hkt)
 have gk : V.keys = [] ∧ ∀ k ∈ V.kids, GoodV n kt k := by
  obtain ⟨-, h20, hg⟩ := hg
  rcases hg with ⟨h', _⟩ | ⟨_, hk, t, ht, hall⟩ | ⟨h', _⟩ | ⟨h', _⟩
  ·omega
  ·rw [hkt] at ht
   injection ht with ht
   subst ht
   exact ⟨hk, hall⟩
  ·omega
  ·omega
 have hk0 : V.keys.length = 0 := by rw [gk.1]; rfl
 have Hgk := Lib.hid gk.2
 have Hkg := Lib.hid hkg
 have hpos : 0 < T.kids.length := by omega
 clear gk hkt hkg hl1
 obtain ⟨A, c, A1, c1, A2, c2, rfl, q1, q2, q3, q4, q5, q6, hs, hd, hrow1, hrow⟩ := hV
 have HR := Lib.hid hrow
 have HR1 := Lib.hid hrow1
 have Hp := Lib.hid hp
 clear hT hs hG hd hg hrow hrow1 hp
 simp only [vcells]
 rw [hn]
 rw [hk0]
 unfold maxLen at q2 q4 q6
 go_enter Tryz.func22, Tryz.ntmps22
 have t32 : (T.kind == 32) = false := by simp [h]
 have t34 : (T.kind == 34) = true := by simp [h]
 have t33 : (T.kind == 33) = false := by simp [h]
 have t49 : (T.kind == 49) = false := by simp [h]
 have t48 : (T.kind == 48) = false := by simp [h]
 clear h
 go_upto_region 1 with fail
 generalize hW : World.alloc (World.alloc w _) _ = W
 have h0 : Blk W w.heap.size 35 #[.int .i64 T.kind, .slice B T.kids.length bc, .slice B' T.names.length bc'] ∧ Blk W (w.heap.size + 1) 39 #[.bool false, .int .i64 V.sc.n, .float .f64 V.sc.f, .string V.sc.text, .slice A V.sc.data.length c, .int .i64 V.sc.scale, .int .i64 V.sc.months, .int .i64 V.sc.days, .int .i64 V.sc.nanos, .slice A1 0 c1, .slice A2 V.kids.length c2] ∧ Ext w W := by
  rw [← hW]
  exact ⟨(Blk.new w 35 _).alloc _, Blk.new' _ _ 39 _ (by simp), ((Ext.refl w).alloc _).alloc _⟩
 clear hW
 obtain ⟨hb1, hb2, hE⟩ := h0
 have hlt := hb2.lt
 have HE := Lib.hid hE
 have HB1 := Lib.hid hb1
 have HB2 := Lib.hid hb2
 obtain ⟨b0, b1, b2⟩ := hb1.c3
 obtain ⟨d0, d1, d2, d3, d4, d5, d6, d7, d8, d9, d10⟩ := hb2.c11
 clear hb1 hb2 hE
 go_wp2_with fail
 go_loopw [13] (fun v wr => v = .int .i64 0 ∧ W = wr) (fun _ _ => 0)
 case atStart => exact ⟨rfl, rfl⟩
 case round =>
  obtain ⟨rfl, hw⟩ := hrel
  subst hw
  go_wp2_with fail
  clear b0 b1 b2 d0 d1 d2 d3 d4 d5 d6 d7 d8 d9 d10
  go_loopw [55] (fun v wr => ∃ i : Nat, i ≤ V.kids.length ∧ v = .int .i64 i ∧ Ext W wr) (fun v _ => V.kids.length - (intOf v).toNat)
  case atStart => exact ⟨0, Nat.zero_le _, rfl, Ext.refl _⟩
  case round =>
   obtain ⟨i, hi, rfl, hEw⟩ := hrel
   have HW := Lib.hid hEw
   have HX := Lib.hid (HE.out.trans hEw)
   clear hEw
   by_cases hlti : (i : Int) < V.kids.length
   ·have hi' : i < V.kids.length := by omega
    have hka : V.kids[i]? = some V.kids[i] := List.getElem?_eq_getElem hi'
    have Hga := Lib.hid (Or.inr (a := V.kids[i].sc.nul = true) (Hgk.out V.kids[i] (List.getElem_mem hi')))
    obtain ⟨tb, tx, yA, yc, yA', yc', hB, htb, hty, f0, f1, f2⟩ := HT.out
    rw [Nat.zero_mul, Nat.add_zero] at f0 f1 f2
    subst hB
    have Hty := Lib.hid hty
    obtain ⟨g1, o1, xA, xc, xA1, xc1, xA2, xc2, hA, hb1, hx1, hr1⟩ := kid_at HR.out hka
    generalize V.kids[i] = ka at hka hx1 hr1 Hga
    subst hA
    have Hx1 := Lib.hid hx1
    have hr1' : wr.rangeAt g1 (o1 + i * 11) (vcells ka.sc xA xc xA1 ka.keys.length xc1 xA2 ka.kids.length xc2) := fun j u hu => HX.out.cellS (hr1 j u hu)
    have Hr1 := Lib.hid hr1'
    clear hka hx1 hr1 hr1' hty
    go_upto_region 15 with fail
    refine wp_region_lit ?_
    iterate 2 (refine wpList_plain rfl (fun K hK => ?_); go_simp; refine hK _ _ ?_; clear hK K; try simp only [aP, aN, aT, aZ, aS])
    refine wpList_load_mid rfl 39 _ rfl g1 (o1 + i * 11) (by rfl) (vcells ka.sc xA xc xA1 ka.keys.length xc1 xA2 ka.kids.length xc2) _ Hr1.out Tryz.underlying39 rfl hi39 ?_
    try simp only [aP, aN, aT, aZ, aS]
    iterate 2 (refine wpList_plain rfl (fun K hK => ?_); go_simp; refine hK _ _ ?_; clear hK K; try simp only [aP, aN, aT, aZ, aS])
    refine wpList_store_mid rfl 39 _ _ rfl wr.heap.size 0 (vcells ka.sc xA xc xA1 ka.keys.length xc1 xA2 ka.kids.length xc2).toArray (by rfl) (by rfl) ((Blk.new wr 39 #[.bool false, .int .i64 0, .float .f64 0, .string ⟨#[]⟩, .slice none 0 0, .int .i64 0, .int .i64 0, .int .i64 0, .int .i64 0, .slice none 0 0, .slice none 0 0]).there rfl) hi39 (by simp [vcells, Value.oneCell']) ?_
    generalize hW1 : World.setCells _ _ _ _ = W1
    have hB1 : Blk W1 wr.heap.size 39 (vcells ka.sc xA xc xA1 ka.keys.length xc1 xA2 ka.kids.length xc2).toArray := by
     rw [← hW1]
     exact Blk.setCells (Blk.new wr 39 #[.bool false, .int .i64 0, .float .f64 0, .string ⟨#[]⟩, .slice none 0 0, .int .i64 0, .int .i64 0, .int .i64 0, .int .i64 0, .slice none 0 0, .slice none 0 0]) rfl
    have hE1 : Ext wr W1 := by
     rw [← hW1]
     exact setCells_ext (Nat.le_refl _) _ _ _ ((Ext.refl wr).alloc _)
    have HE1 := Lib.hid hE1
    have HX1 := Lib.hid (HX.out.trans hE1)
    have HW1 := Lib.hid (HW.out.trans hE1)
    clear hW1 hE1
    obtain ⟨k0, k1, k2, k3, k4, k5, k6, k7, k8, k9, k10⟩ := Blk.c11 (show Blk W1 wr.heap.size 39 #[.bool ka.sc.nul, .int .i64 ka.sc.n, .float .f64 ka.sc.f, .string ka.sc.text, .slice xA ka.sc.data.length xc, .int .i64 ka.sc.scale, .int .i64 ka.sc.months, .int .i64 ka.sc.days, .int .i64 ka.sc.nanos, .slice xA1 ka.keys.length xc1, .slice xA2 ka.kids.length xc2] from hB1)
    obtain ⟨c0, c1', c2'⟩ := (HB1.out.ext HW1.out).c3
    have hltz : wr.heap.size < W1.heap.size := hB1.lt
    have hltw : w.heap.size + 1 < W1.heap.size := (HB2.out.ext HW1.out).lt
    have hlw0 : w.heap.size < W1.heap.size := by omega
    have hltb : tb < W1.heap.size := Nat.lt_of_lt_of_le htb HX1.out.size
    have j0 : W1.cell? ⟨tb, tx, none⟩ = some (.int .i64 kt.kind) := HX1.out.cellS f0
    have j1 : W1.cell? ⟨tb, tx + 1, none⟩ = some (.slice yA kt.kids.length yc) := HX1.out.cellS f1
    have j2 : W1.cell? ⟨tb, tx + 2, none⟩ = some (.slice yA' kt.names.length yc') := HX1.out.cellS f2
    have hcall : ka.sc.nul = false → ∀ wz, Ext W1 wz → _ := fun hn wz he => Hp.out m m2 wz _ kt _ ka (TyAt.onx (Onx.of_ext (HX1.out.trans he) _) _ _ _ Hty.out) (VlAt.onx (Onx.of_ext (HX1.out.trans he) _) _ _ _ Hx1.out) Hkg.out (Hga.out.resolve_left (by rw [hn]; exact Bool.false_ne_true))
    have Hcall := Lib.hid hcall
    clear hB1 f0 f1 f2 hcall
    cases hnul : ka.sc.nul with
    |true =>
     rw [hnul] at k0
     go_wp2_with fail
     go_roundw
     case rel => exact ⟨i + 1, by omega, by go_num, HW1.out.alloc _⟩
     case measure => simp [intOf]; omega
    |false =>
     rw [hnul] at k0
     have hc := Hcall.out hnul
     simp only [vcells, hnul] at hc
     have Hc := Lib.hid hc
     clear hc Hcall
     go_wp2_with fail
     refine (Hc.out _ ((Ext.refl _).alloc _)).mono ?_
     rintro e w2 ⟨b2, rfl, -, he2⟩
     have He2 := Lib.hid (Ext.trans (HW1.out.alloc _) he2)
     clear he2
     cases b2 with
     |false =>
      go_wp2_with fail
      go_ret
      exact AnsB.mk trivial (HE.out.trans He2.out)
     |true =>
      go_wp2_with fail
      go_roundw
      case rel => exact ⟨i + 1, by omega, by go_num, He2.out⟩
      case measure => simp [intOf]; omega
   ·go_wp2_with fail
    go_ret
    exact AnsB.mk trivial HX.out
set_option maxRecDepth 100000 in
set_option maxHeartbeats 16000000 in
theorem apart_seq48 (n : Nat) (hn5 : n + 1 ≤ 5) (hp : ApartP n) (m m2 : Nat) (w : World) (tv : Value) (T : Ty) (vs : List Value) (V : Vl) (hT : TyAt (fun _ => False) m w tv T) (hV : VlAt (fun _ => False) m2 w vs V) (hG : Good (n + 1) T) (hg : GoodV (n + 1) T V) (h : T.kind = 48) :
  Calls Tryz.prog 22 #[tv, .agg vs.toArray] w (AnsB (fun _ => True) w) := by
 obtain ⟨B, bc, B', bc', rfl⟩ := hT.form
 cases m2 with
 |zero => exact hV.elim
 |succ m2 =>
 cases m with
 |zero => exact hT.elim
 |succ m =>
 have hn := hg.1
 have HTK : Hid (∀ i t, T.kids[i]? = some t → _) := Lib.hid (fun i t ht => tkid_at hT ht)
 have HGK := Lib.hid (fun t (ht : t ∈ T.kids) => hG.1 t ht)
 have hpos : 0 < T.kids.length := by
  have := hG.2
  unfold Shape at this
  omega
 have gk : V.keys = [] ∧ V.kids.length = T.kids.length ∧ ∀ (i : Nat) (t : Ty) (k : Vl), T.kids[i]? = some t → V.kids[i]? = some k → k.sc.nul = true ∨ GoodV n t k := by
  obtain ⟨-, h20, hg⟩ := hg
  rcases hg with ⟨h', _⟩ | ⟨h', _⟩ | ⟨h', _⟩ | ⟨_, hk, hl, hall⟩
  ·omega
  ·omega
  ·omega
  ·refine ⟨hk, hl, fun i t k ht hk => ?_⟩
   rcases hall i t k ht hk with hg | ⟨_, hn, _⟩
   ·exact .inr hg
   ·exact .inl hn
 have hk0 : V.keys.length = 0 := by rw [gk.1]; rfl
 have Hgk := Lib.hid gk.2.2
 have Hkl := Lib.hid gk.2.1
 clear gk
 obtain ⟨A, c, A1, c1, A2, c2, rfl, q1, q2, q3, q4, q5, q6, hs, hd, hrow1, hrow⟩ := hV
 have HR := Lib.hid hrow
 have HR1 := Lib.hid hrow1
 have Hp := Lib.hid hp
 clear hT hs hG hd hg hrow hrow1 hp
 simp only [vcells]
 rw [hn]
 rw [hk0]
 unfold maxLen at q2 q4 q6
 go_enter Tryz.func22, Tryz.ntmps22
 have t32 : (T.kind == 32) = false := by simp [h]
 have t34 : (T.kind == 34) = false := by simp [h]
 have t33 : (T.kind == 33) = false := by simp [h]
 have t49 : (T.kind == 49) = false := by simp [h]
 have t48 : (T.kind == 48) = true := by simp [h]
 clear h
 go_upto_region 1 with fail
 generalize hW : World.alloc (World.alloc w _) _ = W
 have h0 : Blk W w.heap.size 35 #[.int .i64 T.kind, .slice B T.kids.length bc, .slice B' T.names.length bc'] ∧ Blk W (w.heap.size + 1) 39 #[.bool false, .int .i64 V.sc.n, .float .f64 V.sc.f, .string V.sc.text, .slice A V.sc.data.length c, .int .i64 V.sc.scale, .int .i64 V.sc.months, .int .i64 V.sc.days, .int .i64 V.sc.nanos, .slice A1 0 c1, .slice A2 V.kids.length c2] ∧ Ext w W := by
  rw [← hW]
  exact ⟨(Blk.new w 35 _).alloc _, Blk.new' _ _ 39 _ (by simp), ((Ext.refl w).alloc _).alloc _⟩
 clear hW
 obtain ⟨hb1, hb2, hE⟩ := h0
 have hlt := hb2.lt
 have HE := Lib.hid hE
 have HB1 := Lib.hid hb1
 have HB2 := Lib.hid hb2
 obtain ⟨b0, b1, b2⟩ := hb1.c3
 obtain ⟨d0, d1, d2, d3, d4, d5, d6, d7, d8, d9, d10⟩ := hb2.c11
 clear hb1 hb2 hE
 go_wp2_with fail
 go_loopw [13] (fun v wr => v = .int .i64 0 ∧ W = wr) (fun _ _ => 0)
 case atStart => exact ⟨rfl, rfl⟩
 case round =>
  obtain ⟨rfl, hw⟩ := hrel
  subst hw
  go_wp2_with fail
  clear b0 b1 b2 d0 d1 d2 d3 d4 d5 d6 d7 d8 d9 d10
  go_loopw [55] (fun v wr => ∃ i : Nat, i ≤ V.kids.length ∧ v = .int .i64 i ∧ Ext W wr) (fun v _ => V.kids.length - (intOf v).toNat)
  case atStart => exact ⟨0, Nat.zero_le _, rfl, Ext.refl _⟩
  case round =>
   obtain ⟨i, hi, rfl, hEw⟩ := hrel
   have HW := Lib.hid hEw
   have HX := Lib.hid (HE.out.trans hEw)
   clear hEw
   by_cases hlti : (i : Int) < V.kids.length
   ·have hi' : i < V.kids.length := by omega
    have hka : V.kids[i]? = some V.kids[i] := List.getElem?_eq_getElem hi'
    have hlt' : i < T.kids.length := by have := Hkl.out; omega
    have hltt : (i : Int) < T.kids.length := by omega
    have hkt : T.kids[i]? = some T.kids[i] := List.getElem?_eq_getElem hlt'
    have Hga := Lib.hid (Hgk.out i _ _ hkt hka)
    have Hkg := Lib.hid (HGK.out _ (List.getElem_mem hlt'))
    obtain ⟨tb, tx, yA, yc, yA', yc', hB, htb, hty, f0, f1, f2⟩ := HTK.out i _ hkt
    generalize T.kids[i] = kt at hkt hty f0 f1 f2 Hga Hkg
    subst hB
    have Hty := Lib.hid hty
    clear hkt
    obtain ⟨g1, o1, xA, xc, xA1, xc1, xA2, xc2, hA, hb1, hx1, hr1⟩ := kid_at HR.out hka
    generalize V.kids[i] = ka at hka hx1 hr1 Hga
    subst hA
    have Hx1 := Lib.hid hx1
    have hr1' : wr.rangeAt g1 (o1 + i * 11) (vcells ka.sc xA xc xA1 ka.keys.length xc1 xA2 ka.kids.length xc2) := fun j u hu => HX.out.cellS (hr1 j u hu)
    have Hr1 := Lib.hid hr1'
    clear hka hx1 hr1 hr1' hty
    go_upto_region 15 with fail
    refine wp_region_lit ?_
    iterate 2 (refine wpList_plain rfl (fun K hK => ?_); go_simp; refine hK _ _ ?_; clear hK K; try simp only [aP, aN, aT, aZ, aS])
    refine wpList_load_mid rfl 39 _ rfl g1 (o1 + i * 11) (by rfl) (vcells ka.sc xA xc xA1 ka.keys.length xc1 xA2 ka.kids.length xc2) _ Hr1.out Tryz.underlying39 rfl hi39 ?_
    try simp only [aP, aN, aT, aZ, aS]
    iterate 2 (refine wpList_plain rfl (fun K hK => ?_); go_simp; refine hK _ _ ?_; clear hK K; try simp only [aP, aN, aT, aZ, aS])
    refine wpList_store_mid rfl 39 _ _ rfl wr.heap.size 0 (vcells ka.sc xA xc xA1 ka.keys.length xc1 xA2 ka.kids.length xc2).toArray (by rfl) (by rfl) ((Blk.new wr 39 #[.bool false, .int .i64 0, .float .f64 0, .string ⟨#[]⟩, .slice none 0 0, .int .i64 0, .int .i64 0, .int .i64 0, .int .i64 0, .slice none 0 0, .slice none 0 0]).there rfl) hi39 (by simp [vcells, Value.oneCell']) ?_
    generalize hW1 : World.setCells _ _ _ _ = W1
    have hB1 : Blk W1 wr.heap.size 39 (vcells ka.sc xA xc xA1 ka.keys.length xc1 xA2 ka.kids.length xc2).toArray := by
     rw [← hW1]
     exact Blk.setCells (Blk.new wr 39 #[.bool false, .int .i64 0, .float .f64 0, .string ⟨#[]⟩, .slice none 0 0, .int .i64 0, .int .i64 0, .int .i64 0, .int .i64 0, .slice none 0 0, .slice none 0 0]) rfl
    have hE1 : Ext wr W1 := by
     rw [← hW1]
     exact setCells_ext (Nat.le_refl _) _ _ _ ((Ext.refl wr).alloc _)
    have HE1 := Lib.hid hE1
    have HX1 := Lib.hid (HX.out.trans hE1)
    have HW1 := Lib.hid (HW.out.trans hE1)
    clear hW1 hE1
    obtain ⟨k0, k1, k2, k3, k4, k5, k6, k7, k8, k9, k10⟩ := Blk.c11 (show Blk W1 wr.heap.size 39 #[.bool ka.sc.nul, .int .i64 ka.sc.n, .float .f64 ka.sc.f, .string ka.sc.text, .slice xA ka.sc.data.length xc, .int .i64 ka.sc.scale, .int .i64 ka.sc.months, .int .i64 ka.sc.days, .int .i64 ka.sc.nanos, .slice xA1 ka.keys.length xc1, .slice xA2 ka.kids.length xc2] from hB1)
    obtain ⟨c0, c1', c2'⟩ := (HB1.out.ext HW1.out).c3
    have hltz : wr.heap.size < W1.heap.size := hB1.lt
    have hltw : w.heap.size + 1 < W1.heap.size := (HB2.out.ext HW1.out).lt
    have hlw0 : w.heap.size < W1.heap.size := by omega
    have hltb : tb < W1.heap.size := Nat.lt_of_lt_of_le htb HX1.out.size
    have j0 : W1.cell? ⟨tb, tx + i * 3, none⟩ = some (.int .i64 kt.kind) := HX1.out.cellS f0
    have j1 : W1.cell? ⟨tb, tx + i * 3 + 1, none⟩ = some (.slice yA kt.kids.length yc) := HX1.out.cellS f1
    have j2 : W1.cell? ⟨tb, tx + i * 3 + 2, none⟩ = some (.slice yA' kt.names.length yc') := HX1.out.cellS f2
    have hcall : ka.sc.nul = false → ∀ wz, Ext W1 wz → _ := fun hn wz he => Hp.out m m2 wz _ kt _ ka (TyAt.onx (Onx.of_ext (HX1.out.trans he) _) _ _ _ Hty.out) (VlAt.onx (Onx.of_ext (HX1.out.trans he) _) _ _ _ Hx1.out) Hkg.out (Hga.out.resolve_left (by rw [hn]; exact Bool.false_ne_true))
    have Hcall := Lib.hid hcall
    clear hB1 f0 f1 f2 hcall
    cases hnul : ka.sc.nul with
    |true =>
     rw [hnul] at k0
     go_wp2_with fail
     go_roundw
     case rel => exact ⟨i + 1, by omega, by go_num, HW1.out.alloc _⟩
     case measure => simp [intOf]; omega
    |false =>
     rw [hnul] at k0
     have hc := Hcall.out hnul
     simp only [vcells, hnul] at hc
     have Hc := Lib.hid hc
     clear hc Hcall
     go_wp2_with fail
     refine (Hc.out _ ((Ext.refl _).alloc _)).mono ?_
     rintro e w2 ⟨b2, rfl, -, he2⟩
     have He2 := Lib.hid (Ext.trans (HW1.out.alloc _) he2)
     clear he2
     cases b2 with
     |false =>
      go_wp2_with fail
      go_ret
      exact AnsB.mk trivial (HE.out.trans He2.out)
     |true =>
      go_wp2_with fail
      go_roundw
      case rel => exact ⟨i + 1, by omega, by go_num, He2.out⟩
      case measure => simp [intOf]; omega
   ·go_wp2_with fail
    go_ret
    exact AnsB.mk trivial HX.out
set_option maxRecDepth 100000 in
set_option maxHeartbeats 16000000 in
theorem apart_seq49 (n : Nat) (hn5 : n + 1 ≤ 5) (hp : ApartP n) (m m2 : Nat) (w : World) (tv : Value) (T : Ty) (vs : List Value) (V : Vl) (hT : TyAt (fun _ => False) m w tv T) (hV : VlAt (fun _ => False) m2 w vs V) (hG : Good (n + 1) T) (hg : GoodV (n + 1) T V) (h : T.kind = 49) :
  Calls Tryz.prog 22 #[tv, .agg vs.toArray] w (AnsB (fun _ => True) w) := by
 obtain ⟨B, bc, B', bc', rfl⟩ := hT.form
 cases m2 with
 |zero => exact hV.elim
 |succ m2 =>
 cases m with
 |zero => exact hT.elim
 |succ m =>
 have hn := hg.1
 have HTK : Hid (∀ i t, T.kids[i]? = some t → _) := Lib.hid (fun i t ht => tkid_at hT ht)
 have HGK := Lib.hid (fun t (ht : t ∈ T.kids) => hG.1 t ht)
 have hpos : 0 < T.kids.length := by
  have := hG.2
  unfold Shape at this
  omega
 have gk : V.keys = [] ∧ V.kids.length = T.kids.length ∧ ∀ (i : Nat) (t : Ty) (k : Vl), T.kids[i]? = some t → V.kids[i]? = some k → k.sc.nul = true ∨ GoodV n t k := by
  obtain ⟨-, h20, hg⟩ := hg
  rcases hg with ⟨h', _⟩ | ⟨h', _⟩ | ⟨h', _⟩ | ⟨_, hk, hl, hall⟩
  ·omega
  ·omega
  ·omega
  ·refine ⟨hk, hl, fun i t k ht hk => ?_⟩
   rcases hall i t k ht hk with hg | ⟨_, hn, _⟩
   ·exact .inr hg
   ·exact .inl hn
 have hk0 : V.keys.length = 0 := by rw [gk.1]; rfl
 have Hgk := Lib.hid gk.2.2
 have Hkl := Lib.hid gk.2.1
 clear gk
 obtain ⟨A, c, A1, c1, A2, c2, rfl, q1, q2, q3, q4, q5, q6, hs, hd, hrow1, hrow⟩ := hV
 have HR := Lib.hid hrow
 have HR1 := Lib.hid hrow1
 have Hp := Lib.hid hp
 clear hT hs hG hd hg hrow hrow1 hp
 simp only [vcells]
 rw [hn]
 rw [hk0]
 unfold maxLen at q2 q4 q6
 go_enter Tryz.func22, Tryz.ntmps22
 have t32 : (T.kind == 32) = false := by simp [h]
 have t34 : (T.kind == 34) = false := by simp [h]
 have t33 : (T.kind == 33) = false := by simp [h]
 have t49 : (T.kind == 49) = true := by simp [h]
 have t48 : (T.kind == 48) = false := by simp [h]
 clear h
 go_upto_region 1 with fail
 generalize hW : World.alloc (World.alloc w _) _ = W
 have h0 : Blk W w.heap.size 35 #[.int .i64 T.kind, .slice B T.kids.length bc, .slice B' T.names.length bc'] ∧ Blk W (w.heap.size + 1) 39 #[.bool false, .int .i64 V.sc.n, .float .f64 V.sc.f, .string V.sc.text, .slice A V.sc.data.length c, .int .i64 V.sc.scale, .int .i64 V.sc.months, .int .i64 V.sc.days, .int .i64 V.sc.nanos, .slice A1 0 c1, .slice A2 V.kids.length c2] ∧ Ext w W := by
  rw [← hW]
  exact ⟨(Blk.new w 35 _).alloc _, Blk.new' _ _ 39 _ (by simp), ((Ext.refl w).alloc _).alloc _⟩
 clear hW
 obtain ⟨hb1, hb2, hE⟩ := h0
 have hlt := hb2.lt
 have HE := Lib.hid hE
 have HB1 := Lib.hid hb1
 have HB2 := Lib.hid hb2
 obtain ⟨b0, b1, b2⟩ := hb1.c3
 obtain ⟨d0, d1, d2, d3, d4, d5, d6, d7, d8, d9, d10⟩ := hb2.c11
 clear hb1 hb2 hE
 go_wp2_with fail
 go_loopw [13] (fun v wr => v = .int .i64 0 ∧ W = wr) (fun _ _ => 0)
 case atStart => exact ⟨rfl, rfl⟩
 case round =>
  obtain ⟨rfl, hw⟩ := hrel
  subst hw
  go_wp2_with fail
  clear b0 b1 b2 d0 d1 d2 d3 d4 d5 d6 d7 d8 d9 d10
  go_loopw [55] (fun v wr => ∃ i : Nat, i ≤ V.kids.length ∧ v = .int .i64 i ∧ Ext W wr) (fun v _ => V.kids.length - (intOf v).toNat)
  case atStart => exact ⟨0, Nat.zero_le _, rfl, Ext.refl _⟩
  case round =>
   obtain ⟨i, hi, rfl, hEw⟩ := hrel
   have HW := Lib.hid hEw
   have HX := Lib.hid (HE.out.trans hEw)
   clear hEw
   by_cases hlti : (i : Int) < V.kids.length
   ·have hi' : i < V.kids.length := by omega
    have hka : V.kids[i]? = some V.kids[i] := List.getElem?_eq_getElem hi'
    have hlt' : i < T.kids.length := by have := Hkl.out; omega
    have hltt : (i : Int) < T.kids.length := by omega
    have hkt : T.kids[i]? = some T.kids[i] := List.getElem?_eq_getElem hlt'
    have Hga := Lib.hid (Hgk.out i _ _ hkt hka)
    have Hkg := Lib.hid (HGK.out _ (List.getElem_mem hlt'))
    obtain ⟨tb, tx, yA, yc, yA', yc', hB, htb, hty, f0, f1, f2⟩ := HTK.out i _ hkt
    generalize T.kids[i] = kt at hkt hty f0 f1 f2 Hga Hkg
    subst hB
    have Hty := Lib.hid hty
    clear hkt
    obtain ⟨g1, o1, xA, xc, xA1, xc1, xA2, xc2, hA, hb1, hx1, hr1⟩ := kid_at HR.out hka
    generalize V.kids[i] = ka at hka hx1 hr1 Hga
    subst hA
    have Hx1 := Lib.hid hx1
    have hr1' : wr.rangeAt g1 (o1 + i * 11) (vcells ka.sc xA xc xA1 ka.keys.length xc1 xA2 ka.kids.length xc2) := fun j u hu => HX.out.cellS (hr1 j u hu)
    have Hr1 := Lib.hid hr1'
    clear hka hx1 hr1 hr1' hty
    go_upto_region 15 with fail
    refine wp_region_lit ?_
    iterate 2 (refine wpList_plain rfl (fun K hK => ?_); go_simp; refine hK _ _ ?_; clear hK K; try simp only [aP, aN, aT, aZ, aS])
    refine wpList_load_mid rfl 39 _ rfl g1 (o1 + i * 11) (by rfl) (vcells ka.sc xA xc xA1 ka.keys.length xc1 xA2 ka.kids.length xc2) _ Hr1.out Tryz.underlying39 rfl hi39 ?_
    try simp only [aP, aN, aT, aZ, aS]
    iterate 2 (refine wpList_plain rfl (fun K hK => ?_); go_simp; refine hK _ _ ?_; clear hK K; try simp only [aP, aN, aT, aZ, aS])
    refine wpList_store_mid rfl 39 _ _ rfl wr.heap.size 0 (vcells ka.sc xA xc xA1 ka.keys.length xc1 xA2 ka.kids.length xc2).toArray (by rfl) (by rfl) ((Blk.new wr 39 #[.bool false, .int .i64 0, .float .f64 0, .string ⟨#[]⟩, .slice none 0 0, .int .i64 0, .int .i64 0, .int .i64 0, .int .i64 0, .slice none 0 0, .slice none 0 0]).there rfl) hi39 (by simp [vcells, Value.oneCell']) ?_
    generalize hW1 : World.setCells _ _ _ _ = W1
    have hB1 : Blk W1 wr.heap.size 39 (vcells ka.sc xA xc xA1 ka.keys.length xc1 xA2 ka.kids.length xc2).toArray := by
     rw [← hW1]
     exact Blk.setCells (Blk.new wr 39 #[.bool false, .int .i64 0, .float .f64 0, .string ⟨#[]⟩, .slice none 0 0, .int .i64 0, .int .i64 0, .int .i64 0, .int .i64 0, .slice none 0 0, .slice none 0 0]) rfl
    have hE1 : Ext wr W1 := by
     rw [← hW1]
     exact setCells_ext (Nat.le_refl _) _ _ _ ((Ext.refl wr).alloc _)
    have HE1 := Lib.hid hE1
    have HX1 := Lib.hid (HX.out.trans hE1)
    have HW1 := Lib.hid (HW.out.trans hE1)
    clear hW1 hE1
    obtain ⟨k0, k1, k2, k3, k4, k5, k6, k7, k8, k9, k10⟩ := Blk.c11 (show Blk W1 wr.heap.size 39 #[.bool ka.sc.nul, .int .i64 ka.sc.n, .float .f64 ka.sc.f, .string ka.sc.text, .slice xA ka.sc.data.length xc, .int .i64 ka.sc.scale, .int .i64 ka.sc.months, .int .i64 ka.sc.days, .int .i64 ka.sc.nanos, .slice xA1 ka.keys.length xc1, .slice xA2 ka.kids.length xc2] from hB1)
    obtain ⟨c0, c1', c2'⟩ := (HB1.out.ext HW1.out).c3
    have hltz : wr.heap.size < W1.heap.size := hB1.lt
    have hltw : w.heap.size + 1 < W1.heap.size := (HB2.out.ext HW1.out).lt
    have hlw0 : w.heap.size < W1.heap.size := by omega
    have hltb : tb < W1.heap.size := Nat.lt_of_lt_of_le htb HX1.out.size
    have j0 : W1.cell? ⟨tb, tx + i * 3, none⟩ = some (.int .i64 kt.kind) := HX1.out.cellS f0
    have j1 : W1.cell? ⟨tb, tx + i * 3 + 1, none⟩ = some (.slice yA kt.kids.length yc) := HX1.out.cellS f1
    have j2 : W1.cell? ⟨tb, tx + i * 3 + 2, none⟩ = some (.slice yA' kt.names.length yc') := HX1.out.cellS f2
    have hcall : ka.sc.nul = false → ∀ wz, Ext W1 wz → _ := fun hn wz he => Hp.out m m2 wz _ kt _ ka (TyAt.onx (Onx.of_ext (HX1.out.trans he) _) _ _ _ Hty.out) (VlAt.onx (Onx.of_ext (HX1.out.trans he) _) _ _ _ Hx1.out) Hkg.out (Hga.out.resolve_left (by rw [hn]; exact Bool.false_ne_true))
    have Hcall := Lib.hid hcall
    clear hB1 f0 f1 f2 hcall
    cases hnul : ka.sc.nul with
    |true =>
     rw [hnul] at k0
     go_wp2_with fail
     go_roundw
     case rel => exact ⟨i + 1, by omega, by go_num, HW1.out.alloc _⟩
     case measure => simp [intOf]; omega
    |false =>
     rw [hnul] at k0
     have hc := Hcall.out hnul
     simp only [vcells, hnul] at hc
     have Hc := Lib.hid hc
     clear hc Hcall
     go_wp2_with fail
     refine (Hc.out _ ((Ext.refl _).alloc _)).mono ?_
     rintro e w2 ⟨b2, rfl, -, he2⟩
     have He2 := Lib.hid (Ext.trans (HW1.out.alloc _) he2)
     clear he2
     cases b2 with
     |false =>
      go_wp2_with fail
      go_ret
      exact AnsB.mk trivial (HE.out.trans He2.out)
     |true =>
      go_wp2_with fail
      go_roundw
      case rel => exact ⟨i + 1, by omega, by go_num, He2.out⟩
      case measure => simp [intOf]; omega
   ·go_wp2_with fail
    go_ret
    exact AnsB.mk trivial HX.out
set_option maxRecDepth 100000 in
set_option maxHeartbeats 16000000 in
theorem apart_map (n : Nat) (hn5 : n + 1 ≤ 5) (hp : ApartP n) (m m2 : Nat) (w : World) (tv : Value) (T : Ty) (vs : List Value) (V : Vl) (hT : TyAt (fun _ => False) m w tv T) (hV : VlAt (fun _ => False) m2 w vs V) (hG : Good (n + 1) T) (hg : GoodV (n + 1) T V) (h : T.kind = 33) :
  Calls Tryz.prog 22 #[tv, .agg vs.toArray] w (AnsB (fun _ => True) w) := by
 obtain ⟨B, bc, B', bc', rfl⟩ := hT.form
 cases m2 with
 |zero => exact hV.elim
 |succ m2 =>
 cases m with
 |zero => exact hT.elim
 |succ m =>
 have hn := hg.1
 have hl1 : T.kids.length = 2 := by
  have := hG.2
  unfold Shape at this
  omega
 have hkt : T.kids[0]? = some T.kids[0] := List.getElem?_eq_getElem (by omega)
 have hkg : Good n T.kids[0] := hG.1 _ (List.getElem_mem _)
 have hmt : T.kids[1]? = some T.kids[1] := List.getElem?_eq_getElem (by omega)
 have hmg : Good n T.kids[1] := hG.1 _ (List.getElem_mem _)
 generalize T.kids[0] = kt at hkt hkg
 generalize T.kids[1] = lt at hmt hmg
 have HT := Lib.hid (tkid_at hT hkt)
 have HU := Lib.hid (tkid_at hT hmt)
 have gk : V.keys.length = V.kids.length ∧ (∀ k ∈ V.keys, GoodV n kt k) ∧ ∀ k ∈ V.kids, GoodV n lt k := by
  obtain ⟨-, h20, hg⟩ := hg
  rcases hg with ⟨h', _⟩ | ⟨h', _⟩ | ⟨_, hl, t, t', ht, ht', hall, hall'⟩ | ⟨h', _⟩
  ·omega
  ·omega
  ·rw [hkt] at ht
   injection ht with ht
   subst ht
   rw [hmt] at ht'
   injection ht' with ht'
   subst ht'
   exact ⟨hl, hall, hall'⟩
  ·omega
 have Hgv := Lib.hid gk
 have Hkg := Lib.hid hkg
 have Hmg := Lib.hid hmg
 have hbc : 0 < T.kids.length := by omega
 have hbd : (1 : Int) < (T.kids.length : Int) := by omega
 clear gk hkt hkg hmt hmg hl1
 obtain ⟨A, c, A1, c1, A2, c2, rfl, q1, q2, q3, q4, q5, q6, hs, hd, hrow1, hrow⟩ := hV
 have HR := Lib.hid hrow
 have HR1 := Lib.hid hrow1
 have Hp := Lib.hid hp
 clear hT hs hG hd hg hrow hrow1 hp
 simp only [vcells]
 rw [hn]
 unfold maxLen at q2 q4 q6
 go_enter Tryz.func22, Tryz.ntmps22
 have t32 : (T.kind == 32) = false := by simp [h]
 have t34 : (T.kind == 34) = false := by simp [h]
 have t33 : (T.kind == 33) = true := by simp [h]
 have t49 : (T.kind == 49) = false := by simp [h]
 have t48 : (T.kind == 48) = false := by simp [h]
 clear h
 go_upto_region 1 with fail
 generalize hW : World.alloc (World.alloc w _) _ = W
 have h0 : Blk W w.heap.size 35 #[.int .i64 T.kind, .slice B T.kids.length bc, .slice B' T.names.length bc'] ∧ Blk W (w.heap.size + 1) 39 #[.bool false, .int .i64 V.sc.n, .float .f64 V.sc.f, .string V.sc.text, .slice A V.sc.data.length c, .int .i64 V.sc.scale, .int .i64 V.sc.months, .int .i64 V.sc.days, .int .i64 V.sc.nanos, .slice A1 V.keys.length c1, .slice A2 V.kids.length c2] ∧ Ext w W := by
  rw [← hW]
  exact ⟨(Blk.new w 35 _).alloc _, Blk.new' _ _ 39 _ (by simp), ((Ext.refl w).alloc _).alloc _⟩
 clear hW
 obtain ⟨hb1, hb2, hE⟩ := h0
 have hlt := hb2.lt
 have HE := Lib.hid hE
 have HB1 := Lib.hid hb1
 have HB2 := Lib.hid hb2
 obtain ⟨b0, b1, b2⟩ := hb1.c3
 obtain ⟨d0, d1, d2, d3, d4, d5, d6, d7, d8, d9, d10⟩ := hb2.c11
 clear hb1 hb2 hE
 go_wp2_with fail
 clear b0 b1 b2 d0 d1 d2 d3 d4 d5 d6 d7 d8 d9 d10
 go_loopw [13] (fun v wr => ∃ i : Nat, i ≤ V.keys.length ∧ v = .int .i64 i ∧ Ext W wr) (fun v _ => V.keys.length - (intOf v).toNat)
 case atStart => exact ⟨0, Nat.zero_le _, rfl, Ext.refl _⟩
 case round =>
  obtain ⟨i, hi, rfl, hEw⟩ := hrel
  have HW := Lib.hid hEw
  have HX := Lib.hid (HE.out.trans hEw)
  clear hEw
  obtain ⟨d0, d1, d2, d3, d4, d5, d6, d7, d8, d9, d10⟩ := (HB2.out.ext HW.out).c11
  by_cases hlti : (i : Int) < V.keys.length
  ·have hi' : i < V.keys.length := by omega
   have hic : i ≤ c1 := by omega
   have hka : V.keys[i]? = some V.keys[i] := List.getElem?_eq_getElem hi'
   have Hga := Lib.hid (Hgv.out.2.1 _ (List.getElem_mem hi'))
   obtain ⟨tb, tx, kA, kc, kA', kc', hB, htb, hty, f0, f1, f2⟩ := HT.out
   rw [Nat.zero_mul, Nat.add_zero] at f0 f1 f2
   subst hB
   have Hty := Lib.hid hty
   have HF := Lib.hid (And.intro f0 (And.intro f1 f2))
   obtain ⟨g1, o1, xA, xc, xA1, xc1, xA2, xc2, hA, hb1, hx1, hr1⟩ := kid_at HR1.out hka
   generalize V.keys[i] = ax at hka hx1 hr1 Hga
   subst hA
   have Hx1 := Lib.hid hx1
   have Hr1 := Lib.hid hr1
   clear hka hx1 hr1 hty f0 f1 f2
   go_wp2_with fail
   clear d0 d1 d2 d3 d4 d5 d6 d7 d8 d9 d10
   obtain ⟨wp, hwp⟩ : ∃ x, x = wr := ⟨wr, rfl⟩
   subst hwp
   go_loopw [21] (fun v wr => ∃ j : Nat, j ≤ i ∧ v = .int .i64 j ∧ Ext W wr) (fun v _ => i - (intOf v).toNat)
   case atStart => exact ⟨0, Nat.zero_le _, rfl, HW.out⟩
   case round =>
    obtain ⟨j, hj, rfl, hEw⟩ := hrel
    have HW2 := Lib.hid hEw
    have HX2 := Lib.hid (HE.out.trans hEw)
    clear hEw
    by_cases hltj : (j : Int) < i
    ·have hj' : j < V.keys.length := by omega
     have hltj2 : (j : Int) < V.keys.length := by omega
     have hkb : V.keys[j]? = some V.keys[j] := List.getElem?_eq_getElem hj'
     have Hgb := Lib.hid (Hgv.out.2.1 _ (List.getElem_mem hj'))
     obtain ⟨g2, o2, yA, yc, yA1, yc1, yA2, yc2, hA, hb2, hx2, hr2⟩ := kid_at HR1.out hkb
     generalize V.keys[j] = bx at hkb hx2 hr2 Hgb
     injection hA with hA
     injection hA with hAa hAb
     subst hAa
     subst hAb
     have hS : ∀ wz, Ext W wz → wz.cell? ⟨w.heap.size, 1, none⟩ = some (.slice (some ⟨tb, tx, none⟩) T.kids.length bc) ∧ wz.cell? ⟨w.heap.size + 1, 9, none⟩ = some (.slice (some ⟨g1, o1, none⟩) V.keys.length c1) ∧ wz.cell? ⟨tb, tx, none⟩ = some (.int .i64 kt.kind) ∧ wz.cell? ⟨tb, tx + 1, none⟩ = some (.slice kA kt.kids.length kc) ∧ wz.cell? ⟨tb, tx + 2, none⟩ = some (.slice kA' kt.names.length kc') ∧ wz.rangeAt g1 (o1 + i * 11) (vcells ax.sc xA xc xA1 ax.keys.length xc1 xA2 ax.kids.length xc2) ∧ wz.rangeAt g1 (o1 + j * 11) (vcells bx.sc yA yc yA1 bx.keys.length yc1 yA2 bx.kids.length yc2) := fun wz he => by
      have hx := HE.out.trans he
      obtain ⟨f0, f1, f2⟩ := HF.out
      exact ⟨(HB1.out.ext he).cell 1, (HB2.out.ext he).cell 9, hx.cellS f0, hx.cellS f1, hx.cellS f2, fun q u hu => hx.cellS (Hr1.out q u hu), fun q u hu => hx.cellS (hr2 q u hu)⟩
     have hc1 : ∀ wz, Ext W wz → _ := fun wz he => same_any n (by omega) m m2 m2 wz _ kt _ _ ax bx (TyAt.onx (Onx.of_ext (HE.out.trans he) _) _ _ _ Hty.out) (VlAt.onx (Onx.of_ext (HE.out.trans he) _) _ _ _ Hx1.out) (VlAt.onx (Onx.of_ext (HE.out.trans he) _) _ _ _ hx2) Hkg.out (.inr Hga.out) (.inr Hgb.out)
     have HSS := Lib.hid hS
     have Hc1 := Lib.hid hc1
     have hst : Ext W wr.drew := HW2.out.drew
     have Hst := Lib.hid hst
     clear hS hc1 hst hkb hx2 hr2
     go_upto_region 7 with fail
     refine wp_region_K (fun w' => w'.cell? ⟨w.heap.size, 1, none⟩ = some (.slice (some ⟨tb, tx, none⟩) T.kids.length bc) ∧ w'.cell? ⟨w.heap.size + 1, 9, none⟩ = some (.slice (some ⟨g1, o1, none⟩) V.keys.length c1) ∧ w'.cell? ⟨tb, tx, none⟩ = some (.int .i64 kt.kind) ∧ w'.cell? ⟨tb, tx + 1, none⟩ = some (.slice kA kt.kids.length kc) ∧ w'.cell? ⟨tb, tx + 2, none⟩ = some (.slice kA' kt.names.length kc') ∧ w'.rangeAt g1 (o1 + i * 11) (vcells ax.sc xA xc xA1 ax.keys.length xc1 xA2 ax.kids.length xc2) ∧ w'.rangeAt g1 (o1 + j * 11) (vcells bx.sc yA yc yA1 bx.keys.length yc1 yA2 bx.kids.length yc2)) (ix [1, 3, 5, 7, 8, 10, 12, 13]) 15 [false, false, false, false, false, false, false, false, false, false, false, false, false, false, false] (by kernel_rfl) rfl rfl ?_
     refine fV 0 (v := ?v7Lx0) rfl (by rfl) ?y7Lx0 ?_
     case y7Lx0 => intro w; go_simp; with_reducible rfl
     simp only [aP, aN, aT, aZ, aS]
     refine fV 4 (v := ?v7Lx4) rfl (by rfl) ?y7Lx4 ?_
     case y7Lx4 => intro w; go_simp; with_reducible rfl
     simp only [aP, aN, aT, aZ, aS]
     refine fV 6 (v := ?v7Lx6) rfl (by rfl) ?y7Lx6 ?_
     case y7Lx6 => intro w; go_simp; with_reducible rfl
     simp only [aP, aN, aT, aZ, aS]
     refine fV 9 (v := ?v7Lx9) rfl (by rfl) ?y7Lx9 ?_
     case y7Lx9 => intro w; go_simp; with_reducible rfl
     simp only [aP, aN, aT, aZ, aS]
     refine fV 11 (v := ?v7Lx11) rfl (by rfl) ?y7Lx11 ?_
     case y7Lx11 => intro w; go_simp; with_reducible rfl
     simp only [aP, aN, aT, aZ, aS]
     refine tV 1 (ix [2, 3, 14]) (v := ?v7Lx1) rfl (HSS.out _ Hst.out) (by rfl) ?y7Lx1 ?_
     case y7Lx1 => rintro w ⟨s0, s1, s2, s3, s4, s5, s6⟩; go_simp; with_reducible rfl
     simp only [aP, aN, aT, aZ, aS]
     refine fV 2 (v := ?v7Lx2) rfl (by rfl) ?y7Lx2 ?_
     case y7Lx2 => intro w; go_simp; with_reducible rfl
     simp only [aP, aN, aT, aZ, aS]
     refine tV 3 (ix [14]) (v := ?v7Lx3) rfl (HSS.out _ Hst.out) (by rfl) ?y7Lx3 ?_
     case y7Lx3 => rintro w ⟨s0, s1, s2, s3, s4, s5, s6⟩; go_simp; with_reducible rfl
     simp only [aP, aN, aT, aZ, aS]
     refine tV 5 (ix [7, 8, 14]) (v := ?v7Lx5) rfl (HSS.out _ Hst.out) (by rfl) ?y7Lx5 ?_
     case y7Lx5 => rintro w ⟨s0, s1, s2, s3, s4, s5, s6⟩; go_simp; with_reducible rfl
     simp only [aP, aN, aT, aZ, aS]
     refine tV 7 (ix [8, 14]) (v := ?v7Lx7) rfl (HSS.out _ Hst.out) (by rfl) ?y7Lx7 ?_
     case y7Lx7 => rintro w ⟨s0, s1, s2, s3, s4, s5, s6⟩; go_simp; with_reducible rfl
     simp only [aP, aN, aT, aZ, aS]
     refine tG 8 (ix [14]) rfl (HSS.out _ Hst.out) (yieldsIf_load_mid (by rfl) 39 _ rfl g1 (o1 + i * 11) (by rfl) (vcells ax.sc xA xc xA1 ax.keys.length xc1 xA2 ax.kids.length xc2) _ (fun w' h => h.2.2.2.2.2.1) Tryz.underlying39 rfl hi39) ?_
     simp only [aP, aN, aT, aZ, aS]
     refine tV 10 (ix [12, 13, 14]) (v := ?v7Lx10) rfl (HSS.out _ Hst.out) (by rfl) ?y7Lx10 ?_
     case y7Lx10 => rintro w ⟨s0, s1, s2, s3, s4, s5, s6⟩; go_simp; with_reducible rfl
     simp only [aP, aN, aT, aZ, aS]
     refine tV 12 (ix [13, 14]) (v := ?v7Lx12) rfl (HSS.out _ Hst.out) (by rfl) ?y7Lx12 ?_
     case y7Lx12 => rintro w ⟨s0, s1, s2, s3, s4, s5, s6⟩; go_simp; with_reducible rfl
     simp only [aP, aN, aT, aZ, aS]
     refine tG 13 (ix [14]) rfl (HSS.out _ Hst.out) (yieldsIf_load_mid (by rfl) 39 _ rfl g1 (o1 + j * 11) (by rfl) (vcells bx.sc yA yc yA1 bx.keys.length yc1 yA2 bx.kids.length yc2) _ (fun w' h => h.2.2.2.2.2.2) Tryz.underlying39 rfl hi39) ?_
     simp only [aP, aN, aT, aZ, aS]
     refine wpAnyK_oneg 14 (by kernel_rfl) rfl (by rfl) (fun K' hK => ?_)
     go_simp
     refine (Hc1.out _ Hst.out).mono ?_
     rintro e w2 ⟨b2, rfl, -, he2⟩
     have Hx2 := Lib.hid (Hst.out.trans he2)
     clear he2
     refine hK.out _ _ (fun h => absurd h (by decide)) ?_
     clear hK K'
     simp only [aP, aN, aT, aZ, aS]
     refine wpAnyK_done (by kernel_rfl) ?_ _
     cases b2 with
     |true =>
      go_wp2_with fail
      go_ret
      exact AnsB.mk trivial (HE.out.trans Hx2.out)
     |false =>
      go_wp2_with fail
      go_roundw
      case rel => exact ⟨j + 1, by omega, by go_num, Hx2.out⟩
      case measure => simp [intOf]; omega
    ·have hS : ∀ wz, Ext W wz → wz.cell? ⟨w.heap.size, 1, none⟩ = some (.slice (some ⟨tb, tx, none⟩) T.kids.length bc) ∧ wz.cell? ⟨w.heap.size + 1, 9, none⟩ = some (.slice (some ⟨g1, o1, none⟩) V.keys.length c1) ∧ wz.cell? ⟨tb, tx, none⟩ = some (.int .i64 kt.kind) ∧ wz.cell? ⟨tb, tx + 1, none⟩ = some (.slice kA kt.kids.length kc) ∧ wz.cell? ⟨tb, tx + 2, none⟩ = some (.slice kA' kt.names.length kc') ∧ wz.rangeAt g1 (o1 + i * 11) (vcells ax.sc xA xc xA1 ax.keys.length xc1 xA2 ax.kids.length xc2) := fun wz he => by
      have hx := HE.out.trans he
      obtain ⟨f0, f1, f2⟩ := HF.out
      exact ⟨(HB1.out.ext he).cell 1, (HB2.out.ext he).cell 9, hx.cellS f0, hx.cellS f1, hx.cellS f2, fun q u hu => hx.cellS (Hr1.out q u hu)⟩
     have hc1 : ∀ wz, Ext W wz → _ := fun wz he => Hp.out m m2 wz _ kt _ ax (TyAt.onx (Onx.of_ext (HE.out.trans he) _) _ _ _ Hty.out) (VlAt.onx (Onx.of_ext (HE.out.trans he) _) _ _ _ Hx1.out) Hkg.out Hga.out
     have HSS := Lib.hid hS
     have Hc1 := Lib.hid hc1
     have hst : Ext W wr.drew := HW2.out.drew
     have Hst := Lib.hid hst
     clear hS hc1 hst
     go_wp2_with fail
     refine wp_region_K (fun w' => w'.cell? ⟨w.heap.size, 1, none⟩ = some (.slice (some ⟨tb, tx, none⟩) T.kids.length bc) ∧ w'.cell? ⟨w.heap.size + 1, 9, none⟩ = some (.slice (some ⟨g1, o1, none⟩) V.keys.length c1) ∧ w'.cell? ⟨tb, tx, none⟩ = some (.int .i64 kt.kind) ∧ w'.cell? ⟨tb, tx + 1, none⟩ = some (.slice kA kt.kids.length kc) ∧ w'.cell? ⟨tb, tx + 2, none⟩ = some (.slice kA' kt.names.length kc') ∧ w'.rangeAt g1 (o1 + i * 11) (vcells ax.sc xA xc xA1 ax.keys.length xc1 xA2 ax.kids.length xc2)) (ix [1, 3, 5, 7, 8]) 11 [false, false, false, false, false, false, false, false, false, false, false] (by kernel_rfl) rfl rfl ?_
     refine fV 0 (v := ?v10Mx0) rfl (by rfl) ?y10Mx0 ?_
     case y10Mx0 => intro w; go_simp; with_reducible rfl
     simp only [aP, aN, aT, aZ, aS]
     refine fV 4 (v := ?v10Mx4) rfl (by rfl) ?y10Mx4 ?_
     case y10Mx4 => intro w; go_simp; with_reducible rfl
     simp only [aP, aN, aT, aZ, aS]
     refine fV 6 (v := ?v10Mx6) rfl (by rfl) ?y10Mx6 ?_
     case y10Mx6 => intro w; go_simp; with_reducible rfl
     simp only [aP, aN, aT, aZ, aS]
     refine tV 1 (ix [2, 3, 9, 10]) (v := ?v10Mx1) rfl (HSS.out _ Hst.out) (by rfl) ?y10Mx1 ?_
     case y10Mx1 => rintro w ⟨s0, s1, s2, s3, s4, s5⟩; go_simp; with_reducible rfl
     simp only [aP, aN, aT, aZ, aS]
     refine fV 2 (v := ?v10Mx2) rfl (by rfl) ?y10Mx2 ?_
     case y10Mx2 => intro w; go_simp; with_reducible rfl
     simp only [aP, aN, aT, aZ, aS]
     refine tV 3 (ix [9, 10]) (v := ?v10Mx3) rfl (HSS.out _ Hst.out) (by rfl) ?y10Mx3 ?_
     case y10Mx3 => rintro w ⟨s0, s1, s2, s3, s4, s5⟩; go_simp; with_reducible rfl
     simp only [aP, aN, aT, aZ, aS]
     refine tV 5 (rg 7 10) (v := ?v10Mx5) rfl (HSS.out _ Hst.out) (by rfl) ?y10Mx5 ?_
     case y10Mx5 => rintro w ⟨s0, s1, s2, s3, s4, s5⟩; go_simp; with_reducible rfl
     simp only [aP, aN, aT, aZ, aS]
     refine tV 7 (ix [8, 9, 10]) (v := ?v10Mx7) rfl (HSS.out _ Hst.out) (by rfl) ?y10Mx7 ?_
     case y10Mx7 => rintro w ⟨s0, s1, s2, s3, s4, s5⟩; go_simp; with_reducible rfl
     simp only [aP, aN, aT, aZ, aS]
     refine tG 8 (ix [9, 10]) rfl (HSS.out _ Hst.out) (yieldsIf_load_mid (by rfl) 39 _ rfl g1 (o1 + i * 11) (by rfl) (vcells ax.sc xA xc xA1 ax.keys.length xc1 xA2 ax.kids.length xc2) _ (fun w' h => h.2.2.2.2.2) Tryz.underlying39 rfl hi39) ?_
     simp only [aP, aN, aT, aZ, aS]
     refine wpAnyK_oneg 9 (by kernel_rfl) rfl (by rfl) (fun K' hK => ?_)
     go_simp
     refine (Hc1.out _ Hst.out).mono ?_
     rintro e w2 ⟨b2, rfl, -, he2⟩
     have Hx2 := Lib.hid (Hst.out.trans he2)
     clear he2
     refine hK.out _ _ (fun h => absurd h (by decide)) ?_
     clear hK K'
     simp only [aP, aN, aT, aZ, aS]
     refine fV 10 (v := ?v10Mx10) rfl (by rfl) ?y10Mx10 ?_
     case y10Mx10 => intro w; go_simp; with_reducible rfl
     simp only [aP, aN, aT, aZ, aS]
     refine wpAnyK_done (by kernel_rfl) ?_ _
     cases b2 with
     |false =>
      go_wp2_with fail
      go_ret
      exact AnsB.mk trivial (HE.out.trans Hx2.out)
     |true =>
      go_wp2_with fail
      go_roundw
      case rel => exact ⟨i + 1, by omega, by go_num, Hx2.out⟩
      case measure => simp [intOf]; omega
  ·go_wp2_with fail
   clear d0 d1 d2 d3 d4 d5 d6 d7 d8 d9 d10
   obtain ⟨wp, hwp⟩ : ∃ x, x = wr := ⟨wr, rfl⟩
   subst hwp
   go_loopw [55] (fun v wr => ∃ i : Nat, i ≤ V.kids.length ∧ v = .int .i64 i ∧ Ext W wr) (fun v _ => V.kids.length - (intOf v).toNat)
   case atStart => exact ⟨0, Nat.zero_le _, rfl, HW.out⟩
   case round =>
    obtain ⟨i, hi, rfl, hEw⟩ := hrel
    have HW := Lib.hid hEw
    have HX := Lib.hid (HE.out.trans hEw)
    clear hEw
    by_cases hlti : (i : Int) < V.kids.length
    ·have hi' : i < V.kids.length := by omega
     have hka : V.kids[i]? = some V.kids[i] := List.getElem?_eq_getElem hi'
     have Hga := Lib.hid (Or.inr (a := V.kids[i].sc.nul = true) (Hgv.out.2.2 V.kids[i] (List.getElem_mem hi')))
     obtain ⟨tb, tx, yA, yc, yA', yc', hB, htb, hty, f0, f1, f2⟩ := HU.out
     rw [Nat.one_mul] at f0 f1 f2
     subst hB
     have Hty := Lib.hid hty
     obtain ⟨g1, o1, xA, xc, xA1, xc1, xA2, xc2, hA, hb1, hx1, hr1⟩ := kid_at HR.out hka
     generalize V.kids[i] = ka at hka hx1 hr1 Hga
     subst hA
     have Hx1 := Lib.hid hx1
     have hr1' : wr.rangeAt g1 (o1 + i * 11) (vcells ka.sc xA xc xA1 ka.keys.length xc1 xA2 ka.kids.length xc2) := fun j u hu => HX.out.cellS (hr1 j u hu)
     have Hr1 := Lib.hid hr1'
     clear hka hx1 hr1 hr1' hty
     go_upto_region 15 with fail
     refine wp_region_lit ?_
     iterate 2 (refine wpList_plain rfl (fun K hK => ?_); go_simp; refine hK _ _ ?_; clear hK K; try simp only [aP, aN, aT, aZ, aS])
     refine wpList_load_mid rfl 39 _ rfl g1 (o1 + i * 11) (by rfl) (vcells ka.sc xA xc xA1 ka.keys.length xc1 xA2 ka.kids.length xc2) _ Hr1.out Tryz.underlying39 rfl hi39 ?_
     try simp only [aP, aN, aT, aZ, aS]
     iterate 2 (refine wpList_plain rfl (fun K hK => ?_); go_simp; refine hK _ _ ?_; clear hK K; try simp only [aP, aN, aT, aZ, aS])
     refine wpList_store_mid rfl 39 _ _ rfl wr.heap.size 0 (vcells ka.sc xA xc xA1 ka.keys.length xc1 xA2 ka.kids.length xc2).toArray (by rfl) (by rfl) ((Blk.new wr 39 #[.bool false, .int .i64 0, .float .f64 0, .string ⟨#[]⟩, .slice none 0 0, .int .i64 0, .int .i64 0, .int .i64 0, .int .i64 0, .slice none 0 0, .slice none 0 0]).there rfl) hi39 (by simp [vcells, Value.oneCell']) ?_
     generalize hW1 : World.setCells _ _ _ _ = W1
     have hB1 : Blk W1 wr.heap.size 39 (vcells ka.sc xA xc xA1 ka.keys.length xc1 xA2 ka.kids.length xc2).toArray := by
      rw [← hW1]
      exact Blk.setCells (Blk.new wr 39 #[.bool false, .int .i64 0, .float .f64 0, .string ⟨#[]⟩, .slice none 0 0, .int .i64 0, .int .i64 0, .int .i64 0, .int .i64 0, .slice none 0 0, .slice none 0 0]) rfl
     have hE1 : Ext wr W1 := by
      rw [← hW1]
      exact setCells_ext (Nat.le_refl _) _ _ _ ((Ext.refl wr).alloc _)
     have HE1 := Lib.hid hE1
     have HX1 := Lib.hid (HX.out.trans hE1)
     have HW1 := Lib.hid (HW.out.trans hE1)
     clear hW1 hE1
     obtain ⟨k0, k1, k2, k3, k4, k5, k6, k7, k8, k9, k10⟩ := Blk.c11 (show Blk W1 wr.heap.size 39 #[.bool ka.sc.nul, .int .i64 ka.sc.n, .float .f64 ka.sc.f, .string ka.sc.text, .slice xA ka.sc.data.length xc, .int .i64 ka.sc.scale, .int .i64 ka.sc.months, .int .i64 ka.sc.days, .int .i64 ka.sc.nanos, .slice xA1 ka.keys.length xc1, .slice xA2 ka.kids.length xc2] from hB1)
     obtain ⟨c0, c1', c2'⟩ := (HB1.out.ext HW1.out).c3
     have hltz : wr.heap.size < W1.heap.size := hB1.lt
     have hltw : w.heap.size + 1 < W1.heap.size := (HB2.out.ext HW1.out).lt
     have hlw0 : w.heap.size < W1.heap.size := by omega
     have hltb : tb < W1.heap.size := Nat.lt_of_lt_of_le htb HX1.out.size
     have j0 : W1.cell? ⟨tb, tx + 3, none⟩ = some (.int .i64 lt.kind) := HX1.out.cellS f0
     have j1 : W1.cell? ⟨tb, tx + 3 + 1, none⟩ = some (.slice yA lt.kids.length yc) := HX1.out.cellS f1
     have j2 : W1.cell? ⟨tb, tx + 3 + 2, none⟩ = some (.slice yA' lt.names.length yc') := HX1.out.cellS f2
     have hcall : ka.sc.nul = false → ∀ wz, Ext W1 wz → _ := fun hn wz he => Hp.out m m2 wz _ lt _ ka (TyAt.onx (Onx.of_ext (HX1.out.trans he) _) _ _ _ Hty.out) (VlAt.onx (Onx.of_ext (HX1.out.trans he) _) _ _ _ Hx1.out) Hmg.out (Hga.out.resolve_left (by rw [hn]; exact Bool.false_ne_true))
     have Hcall := Lib.hid hcall
     clear hB1 f0 f1 f2 hcall
     cases hnul : ka.sc.nul with
     |true =>
      rw [hnul] at k0
      go_wp2_with fail
      go_roundw
      case rel => exact ⟨i + 1, by omega, by go_num, HW1.out.alloc _⟩
      case measure => simp [intOf]; omega
     |false =>
      rw [hnul] at k0
      have hc := Hcall.out hnul
      simp only [vcells, hnul] at hc
      have Hc := Lib.hid hc
      clear hc Hcall
      go_wp2_with fail
      refine (Hc.out _ ((Ext.refl _).alloc _)).mono ?_
      rintro e w2 ⟨b2, rfl, -, he2⟩
      have He2 := Lib.hid (Ext.trans (HW1.out.alloc _) he2)
      clear he2
      cases b2 with
      |false =>
       go_wp2_with fail
       go_ret
       exact AnsB.mk trivial (HE.out.trans He2.out)
      |true =>
       go_wp2_with fail
       go_roundw
       case rel => exact ⟨i + 1, by omega, by go_num, He2.out⟩
       case measure => simp [intOf]; omega
    ·go_wp2_with fail
     go_ret
     exact AnsB.mk trivial HX.out
/-- Apart answers. -/
theorem apart_any : ∀ n, n ≤ 5 → ApartP n
 |0, _ => fun _ _ _ _ _ _ _ _ _ hG _ => hG.elim
 |n + 1, hn => fun m m2 w tv T vs V hT hV hG hg => by
  have ih := apart_any n (by omega)
  by_cases hk : T.kind < 32
  ·exact apart_leaf n hn ih m m2 w tv T vs V hT hV hG hg hk
  ·rcases kinds_hi hG.2 hk with h | h | h | h | h
   ·exact apart_seq32 n hn ih m m2 w tv T vs V hT hV hG hg h
   ·exact apart_map n hn ih m m2 w tv T vs V hT hV hG hg h
   ·exact apart_seq34 n hn ih m m2 w tv T vs V hT hV hG hg h
   ·exact apart_seq48 n hn ih m m2 w tv T vs V hT hV hG hg h
   ·exact apart_seq49 n hn ih m m2 w tv T vs V hT hV hG hg h
end Go.Proofs.YtammjbmfiakbnaaGreatDoor
