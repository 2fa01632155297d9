/- A part of the proof that the card of laws.FnMarshal holds. No conditions. -/
import Derived.Test.YtammjbmfiakbnaaGreatDoorM09
import Derived.Test.YtammjbmfiakbnaaGreatDoorM05
import Derived.BigQuiet
set_option linter.unusedSimpArgs false
set_option linter.unusedVariables false
namespace Go.Proofs.YtammjbmfiakbnaaGreatDoor
open Go.RowKit
set_option maxRecDepth 100000 in
set_option maxHeartbeats 40000000 in
theorem tuple_kids48 (n : Nat) (hp : PropP n) (m m2 : Nat) (w : World) (tv : Value) (T : Ty) (vs : List Value) (V : Vl) (hT : TyAt (fun _ => False) m w tv T) (hV : VlAt (fun _ => False) m2 w vs V) (hG : Good (n + 1) T) (hn : V.sc.nul = false)
  (hk : T.kind = 48) (hlen : V.kids.length ≤ 20) :
  Calls Tryz.prog 44 #[tv, .agg vs.toArray] w (AnsB (fun b => b = true → GoodV (n + 1) T V) w) := by
 obtain ⟨B, bc, B', bc', rfl⟩ := hT.form
 cases m2 with
 |zero => exact hV.elim
 |succ m2 =>
 cases m with
 |zero => exact hT.elim
 |succ m =>
 have HTK : Hid (∀ i t, T.kids[i]? = some t → _) := Lib.hid (fun i t ht => tkid_at hT ht)
 have HGK := Lib.hid (fun t (ht : t ∈ T.kids) => hG.1 t ht)
 obtain ⟨A, c, A1, c1, A2, c2, rfl, q1, q2, q3, q4, q5, q6, hs, hd, hrow1, hrow⟩ := hV
 have HR := Lib.hid hrow
 have Hp := Lib.hid hp
 have Hn := Lib.hid hn
 clear hT hs hG hd hrow hrow1 hp hn
 simp only [vcells]
 unfold maxLen at q2 q4 q6
 have t32 : (T.kind == 32) = false := by simp [hk]
 have t34 : (T.kind == 34) = false := by simp [hk]
 have t33 : (T.kind == 33) = false := by simp [hk]
 have t49 : (T.kind == 49) = false := by simp [hk]
 have t48 : (T.kind == 48) = true := by simp [hk]
 have Hk := Lib.hid hk
 clear hk
 go_enter Tryz.func44, Tryz.ntmps44
 go_wp2_with fail
 generalize hW : World.alloc (World.alloc w _) _ = wa
 have h0 : Blk wa w.heap.size 35 #[.int .i64 T.kind, .slice B T.kids.length bc, .slice B' T.names.length bc'] ∧ Blk wa (w.heap.size + 1) 39 #[.bool V.sc.nul, .int .i64 V.sc.n, .float .f64 V.sc.f, .string V.sc.text, .slice A V.sc.data.length c, .int .i64 V.sc.scale, .int .i64 V.sc.months, .int .i64 V.sc.days, .int .i64 V.sc.nanos, .slice A1 V.keys.length c1, .slice A2 V.kids.length c2] ∧ Ext w wa := by
  rw [← hW]
  exact ⟨(Blk.new w 35 _).alloc _, Blk.new' _ _ 39 _ (by simp), ((Ext.refl w).alloc _).alloc _⟩
 clear hW
 obtain ⟨hb1, hb2, hE⟩ := h0
 have HB1 := Lib.hid hb1
 have HB2 := Lib.hid hb2
 have HE := Lib.hid hE
 clear hb1 hb2 hE
 go_loopw [91] (fun v wr => ∃ i : Nat, i ≤ V.kids.length ∧ v = .int .i64 i ∧ Ext wa wr ∧ ∀ (j : Nat) (t : Ty) (k : Vl), j < i → T.kids[j]? = some t → V.kids[j]? = some k → GoodV n t k ∨ (T.kind = 49 ∧ k.sc.nul = true ∧ k.kids = [] ∧ k.keys = [])) (fun v _ => V.kids.length - (intOf v).toNat)
 case atStart => exact ⟨0, Nat.zero_le _, rfl, Ext.refl _, fun j t k h => by omega⟩
 case round =>
  obtain ⟨i, hi, rfl, hE, hgood⟩ := hrel
  have HW := Lib.hid hE
  have HG := Lib.hid hgood
  clear hE hgood
  have hEx : Ext w wr := HE.out.trans HW.out
  have HX := Lib.hid hEx
  clear hEx
  by_cases hlti : (i : Int) < V.kids.length
  ·have hi' : i < V.kids.length := by omega
   have hky : V.kids[i]? = some V.kids[i] := List.getElem?_eq_getElem hi'
   obtain ⟨b, o, xA, xc, xA1, xc1, xA2, xc2, hA, hb, hx, hrg⟩ := kid_at HR.out hky
   generalize V.kids[i] = kv at hky hx hrg
   subst hA
   have HK := Lib.hid (VlAt.onx (Onx.of_ext HX.out _) _ _ _ hx)
   have Hky := Lib.hid hky
   have hrange : wr.rangeAt b (o + i * 11) (vcells kv.sc xA xc xA1 kv.keys.length xc1 xA2 kv.kids.length xc2) := fun j u hu => HX.out.cellS (hrg j u hu)
   have Hrange := Lib.hid hrange
   clear hx hky hrg hrange
   go_upto_region 25 with fail
   refine wp_region_lit ?_
   iterate 2 (refine wpList_plain rfl (fun K hK => ?_); go_simp; refine hK _ _ ?_; clear hK K; try simp only [aP, aN, aT, aZ, aS])
   refine wpList_load_mid rfl 39 _ rfl b (o + i * 11) (by rfl) (vcells kv.sc xA xc xA1 kv.keys.length xc1 xA2 kv.kids.length xc2) _ Hrange.out Tryz.underlying39 rfl hi39 ?_
   try simp only [aP, aN, aT, aZ, aS]
   iterate 2 (refine wpList_plain rfl (fun K hK => ?_); go_simp; refine hK _ _ ?_; clear hK K; try simp only [aP, aN, aT, aZ, aS])
   refine wpList_store_mid rfl 39 _ _ rfl wr.heap.size 0 (vcells kv.sc xA xc xA1 kv.keys.length xc1 xA2 kv.kids.length xc2).toArray (by rfl) (by rfl) ((Blk.new wr 39 #[.bool false, .int .i64 0, .float .f64 0, .string ⟨#[]⟩, .slice none 0 0, .int .i64 0, .int .i64 0, .int .i64 0, .int .i64 0, .slice none 0 0, .slice none 0 0]).there rfl) hi39 (by simp [vcells, Value.oneCell']) ?_
   generalize hW1 : World.setCells _ _ _ _ = W1
   have hB1 : Blk W1 wr.heap.size 39 (vcells kv.sc xA xc xA1 kv.keys.length xc1 xA2 kv.kids.length xc2).toArray := by
    rw [← hW1]
    exact Blk.setCells (Blk.new wr 39 #[.bool false, .int .i64 0, .float .f64 0, .string ⟨#[]⟩, .slice none 0 0, .int .i64 0, .int .i64 0, .int .i64 0, .int .i64 0, .slice none 0 0, .slice none 0 0]) rfl
   have hE1 : Ext wr W1 := by
    rw [← hW1]
    exact setCells_ext (Nat.le_refl _) _ _ _ ((Ext.refl wr).alloc _)
   have HE1 := Lib.hid hE1
   have HB9 := Lib.hid hB1
   have hlt1 := hB1.lt
   clear hW1 hB1 hE1
   by_cases hge : (T.kids.length : Int) ≤ i
   ·have hge' : decide ((T.kids.length : Int) ≤ (i : Int)) = true := by simp [hge]
    have hT1 := ((HB1.out.ext HW.out).ext HE1.out).c3
    obtain ⟨b0, b1, b2⟩ := hT1
    have hltw := ((HB1.out.ext HW.out).ext HE1.out).lt
    have b1' : W1.drew.cell? ⟨w.heap.size, 1, none⟩ = some (.slice B T.kids.length bc) := b1
    clear b0 b1 b2
    go_upto_region 26 with fail
    refine wp_region_K (fun w' => w'.cell? ⟨w.heap.size, 1, none⟩ = some (.slice B T.kids.length bc)) (ix [2, 7, 11, 12, 14, 15, 22, 24, 29, 34, 35, 38, 43, 44, 47]) 52 [false, false, false, false, false, false, false, false, false, false, false, false, false, false, false, false, false, false, false, false, false, false, false, false, false, false, false, false, false, false, false, false, false, false, false, false, false, false, false, false, false, false, false, false, false, false, false, false, false, false, false, false] (by kernel_rfl) rfl rfl ?_
    refine fV 0 (v := ?v26Hx0) rfl (by rfl) ?y26Hx0 ?_
    case y26Hx0 => intro w; go_simp; with_reducible rfl
    simp only [aP, aN, aT, aZ, aS]
    refine fV 1 (v := ?v26Hx1) rfl (by rfl) ?y26Hx1 ?_
    case y26Hx1 => intro w; go_simp; with_reducible rfl
    simp only [aP, aN, aT, aZ, aS]
    refine tV 2 (rg 3 51) (v := ?v26Hx2) rfl b1' (by rfl) ?y26Hx2 ?_
    case y26Hx2 => rintro w s0; go_simp; with_reducible rfl
    simp only [aP, aN, aT, aZ, aS]
    refine fV 3 (v := ?v26Hx3) rfl (by rfl) ?y26Hx3 ?_
    case y26Hx3 => intro w; go_simp; with_reducible rfl
    simp only [aP, aN, aT, aZ, aS]
    refine fV 4 (v := ?v26Hx4) rfl (by rfl) ?y26Hx4 ?_
    case y26Hx4 => intro w; go_simp; with_reducible rfl
    simp only [aP, aN, aT, aZ, aS]
    refine fV 5 (v := ?v26Hx5) rfl (by rfl) ?y26Hx5 ?_
    case y26Hx5 => intro w; go_simp; with_reducible rfl
    simp only [aP, aN, aT, aZ, aS]
    refine fU 6 rfl (by rfl) ?_
    simp only [aP, aN, aT, aZ, aS]
    refine tU 7 (rg 8 51) rfl b1' (by rfl) ?_
    simp only [aP, aN, aT, aZ, aS]
    refine fU 8 rfl (by rfl) ?_
    simp only [aP, aN, aT, aZ, aS]
    refine fU 9 rfl (by rfl) ?_
    simp only [aP, aN, aT, aZ, aS]
    refine fU 10 rfl (by rfl) ?_
    simp only [aP, aN, aT, aZ, aS]
    refine tU 11 (ix [13, 14, 16, 17, 18, 19, 20, 21, 22, 23, 24, 25, 26, 27, 28, 29, 30, 31, 32, 33, 34, 35, 36, 37, 38, 39, 40, 41, 42, 43, 44, 45, 46, 47, 48, 49, 50, 51]) rfl b1' (by rfl) ?_
    simp only [aP, aN, aT, aZ, aS]
    refine tU 12 (ix [13, 14, 16, 17, 18, 19, 20, 21, 22, 23, 24, 25, 26, 27, 28, 29, 30, 31, 32, 33, 34, 35, 36, 37, 38, 39, 40, 41, 42, 43, 44, 45, 46, 47, 48, 49, 50, 51]) rfl b1' (by rfl) ?_
    simp only [aP, aN, aT, aZ, aS]
    refine fU 13 rfl (by rfl) ?_
    simp only [aP, aN, aT, aZ, aS]
    refine tU 14 (rg 16 51) rfl b1' (by rfl) ?_
    simp only [aP, aN, aT, aZ, aS]
    refine tU 15 (rg 16 51) rfl b1' (by rfl) ?_
    simp only [aP, aN, aT, aZ, aS]
    refine wpAnyK_skip 16 (by kernel_rfl) rfl (by rfl) (fun h => absurd h (by decide)) ?_
    simp only [aP, aN, aT, aZ, aS]
    refine fU 17 rfl (by rfl) ?_
    simp only [aP, aN, aT, aZ, aS]
    refine fU 18 rfl (by rfl) ?_
    simp only [aP, aN, aT, aZ, aS]
    refine fV 19 (v := ?v26Hx19) rfl (by rfl) ?y26Hx19 ?_
    case y26Hx19 => intro w; go_simp; with_reducible rfl
    simp only [aP, aN, aT, aZ, aS]
    refine fV 20 (v := ?v26Hx20) rfl (by rfl) ?y26Hx20 ?_
    case y26Hx20 => intro w; go_simp; with_reducible rfl
    simp only [aP, aN, aT, aZ, aS]
    refine fU 21 rfl (by rfl) ?_
    simp only [aP, aN, aT, aZ, aS]
    refine tU 22 (rg 23 51) rfl b1' (by rfl) ?_
    simp only [aP, aN, aT, aZ, aS]
    refine fU 23 rfl (by rfl) ?_
    simp only [aP, aN, aT, aZ, aS]
    refine tU 24 (rg 25 51) rfl b1' (by rfl) ?_
    simp only [aP, aN, aT, aZ, aS]
    refine wpAnyK_skip 25 (by kernel_rfl) rfl (by rfl) (fun h => absurd h (by decide)) ?_
    simp only [aP, aN, aT, aZ, aS]
    refine fU 26 rfl (by rfl) ?_
    simp only [aP, aN, aT, aZ, aS]
    refine fU 27 rfl (by rfl) ?_
    simp only [aP, aN, aT, aZ, aS]
    refine fU 28 rfl (by rfl) ?_
    simp only [aP, aN, aT, aZ, aS]
    refine tU 29 (rg 30 51) rfl b1' (by rfl) ?_
    simp only [aP, aN, aT, aZ, aS]
    refine fU 30 rfl (by rfl) ?_
    simp only [aP, aN, aT, aZ, aS]
    refine fU 31 rfl (by rfl) ?_
    simp only [aP, aN, aT, aZ, aS]
    refine fU 32 rfl (by rfl) ?_
    simp only [aP, aN, aT, aZ, aS]
    refine fU 33 rfl (by rfl) ?_
    simp only [aP, aN, aT, aZ, aS]
    refine tU 34 (rg 36 51) rfl b1' (by rfl) ?_
    simp only [aP, aN, aT, aZ, aS]
    refine tU 35 (rg 36 51) rfl b1' (by rfl) ?_
    simp only [aP, aN, aT, aZ, aS]
    refine fU 36 rfl (by rfl) ?_
    simp only [aP, aN, aT, aZ, aS]
    refine fU 37 rfl (by rfl) ?_
    simp only [aP, aN, aT, aZ, aS]
    refine tU 38 (rg 39 51) rfl b1' (by rfl) ?_
    simp only [aP, aN, aT, aZ, aS]
    refine fU 39 rfl (by rfl) ?_
    simp only [aP, aN, aT, aZ, aS]
    refine fU 40 rfl (by rfl) ?_
    simp only [aP, aN, aT, aZ, aS]
    refine fU 41 rfl (by rfl) ?_
    simp only [aP, aN, aT, aZ, aS]
    refine fU 42 rfl (by rfl) ?_
    simp only [aP, aN, aT, aZ, aS]
    refine tU 43 (rg 45 51) rfl b1' (by rfl) ?_
    simp only [aP, aN, aT, aZ, aS]
    refine tU 44 (rg 45 51) rfl b1' (by rfl) ?_
    simp only [aP, aN, aT, aZ, aS]
    refine fU 45 rfl (by rfl) ?_
    simp only [aP, aN, aT, aZ, aS]
    refine fU 46 rfl (by rfl) ?_
    simp only [aP, aN, aT, aZ, aS]
    refine tU 47 (rg 48 51) rfl b1' (by rfl) ?_
    simp only [aP, aN, aT, aZ, aS]
    refine fU 48 rfl (by rfl) ?_
    simp only [aP, aN, aT, aZ, aS]
    refine fU 49 rfl (by rfl) ?_
    simp only [aP, aN, aT, aZ, aS]
    refine fU 50 rfl (by rfl) ?_
    simp only [aP, aN, aT, aZ, aS]
    refine fV 51 (v := ?v26Hx51) rfl (by rfl) ?y26Hx51 ?_
    case y26Hx51 => intro w; go_simp; with_reducible rfl
    simp only [aP, aN, aT, aZ, aS]
    refine wpAnyK_done (by kernel_rfl) ?_ _
    go_wp2_with fail
    go_ret
    exact AnsB.mk (by simp) ((HX.out.trans HE1.out).drew)
   ·have hge' : decide ((T.kids.length : Int) ≤ (i : Int)) = false := by simp; omega
    have hit : (i : Int) < T.kids.length := by omega
    have hit' : i < T.kids.length := by omega
    have hkt : T.kids[i]? = some T.kids[i] := List.getElem?_eq_getElem hit'
    have hkm : T.kids[i] ∈ T.kids := List.getElem_mem hit'
    obtain ⟨tb, tx, yA, yc, yA', yc', hB, htb, hty, g0, g1, g2⟩ := HTK.out i _ hkt
    have hkg := HGK.out _ hkm
    generalize T.kids[i] = kt at hkt hkm hty g0 g1 g2 hkg
    subst hB
    have hx1 : Ext w W1 := HX.out.trans HE1.out
    have hS : ∀ wz, Ext W1 wz → wz.cell? ⟨w.heap.size, 0, none⟩ = some (.int .i64 T.kind) ∧ wz.cell? ⟨w.heap.size, 1, none⟩ = some (.slice (some ⟨tb, tx, none⟩) T.kids.length bc) ∧ wz.cell? ⟨tb, tx + i * 3, none⟩ = some (.int .i64 kt.kind) ∧ wz.cell? ⟨tb, tx + i * 3 + 1, none⟩ = some (.slice yA kt.kids.length yc) ∧ wz.cell? ⟨tb, tx + i * 3 + 2, none⟩ = some (.slice yA' kt.names.length yc') ∧ wz.cell? ⟨wr.heap.size, 0, none⟩ = some (.bool kv.sc.nul) ∧ wz.rangeAt wr.heap.size 0 (vcells kv.sc xA xc xA1 kv.keys.length xc1 xA2 kv.kids.length xc2) := fun wz he =>
     ⟨(((HB1.out.ext HW.out).ext HE1.out).ext he).cell 0, (((HB1.out.ext HW.out).ext HE1.out).ext he).cell 1, (hx1.trans he).cellS g0, (hx1.trans he).cellS g1, (hx1.trans he).cellS g2, (HB9.out.ext he).cell 0, Blk.range (HB9.out.ext he)⟩
    have HS := Lib.hid hS
    have hc1 : ∀ wz, Ext W1 wz → _ := fun wz he => Hp.out m m2 wz _ kt _ kv (TyAt.onx (Onx.of_ext (hx1.trans he) _) _ _ _ hty) (VlAt.onx (Onx.of_ext (HE1.out.trans he) _) _ _ _ HK.out) hkg
    have Hcall1 := Lib.hid hc1
    have hc2 : ∀ wz, Ext W1 wz → _ := fun wz he => bare_any 0 (fun _ => False) m2 _ kv wz (VlAt.onx (Onx.of_ext (HE1.out.trans he) _) _ _ _ HK.out)
    have Hcall2 := Lib.hid hc2
    have Hkt := Lib.hid hkt
    have hstart : Ext W1 W1.drew := (Ext.refl W1).drew
    have Hst := Lib.hid hstart
    have Hx1 := Lib.hid hx1
    clear hS hc1 hc2 hkt hkm hkg hty g0 g1 g2 hstart hx1
    go_upto_region 26 with fail
    cases hnul : kv.sc.nul with
    |false =>
     rw [hnul] at HS
     refine wp_region_K (fun w' => w'.cell? ⟨w.heap.size, 0, none⟩ = some (.int .i64 T.kind) ∧ w'.cell? ⟨w.heap.size, 1, none⟩ = some (.slice (some ⟨tb, tx, none⟩) T.kids.length bc) ∧ w'.cell? ⟨tb, tx + i * 3, none⟩ = some (.int .i64 kt.kind) ∧ w'.cell? ⟨tb, tx + i * 3 + 1, none⟩ = some (.slice yA kt.kids.length yc) ∧ w'.cell? ⟨tb, tx + i * 3 + 2, none⟩ = some (.slice yA' kt.names.length yc') ∧ w'.cell? ⟨wr.heap.size, 0, none⟩ = some (.bool false) ∧ w'.rangeAt wr.heap.size 0 (vcells kv.sc xA xc xA1 kv.keys.length xc1 xA2 kv.kids.length xc2)) (ix [2, 7, 11, 12, 14, 15, 22, 24, 29, 34, 35, 38, 43, 44, 47]) 52 [false, false, false, false, false, false, false, false, false, false, false, false, false, false, false, false, false, false, false, false, false, false, false, false, false, false, false, false, false, false, false, false, false, false, false, false, false, false, false, false, false, false, false, false, false, false, false, false, false, false, false, false] (by kernel_rfl) rfl rfl ?_
     refine fV 0 (v := ?v26Bx0) rfl (by rfl) ?y26Bx0 ?_
     case y26Bx0 => intro w; go_simp; with_reducible rfl
     simp only [aP, aN, aT, aZ, aS]
     refine fV 1 (v := ?v26Bx1) rfl (by rfl) ?y26Bx1 ?_
     case y26Bx1 => intro w; go_simp; with_reducible rfl
     simp only [aP, aN, aT, aZ, aS]
     refine tV 2 (rg 3 51) (v := ?v26Bx2) rfl (HS.out _ Hst.out) (by rfl) ?y26Bx2 ?_
     case y26Bx2 => rintro w ⟨s0, s1, s2, s3, s4, s5, s6⟩; go_simp; with_reducible rfl
     simp only [aP, aN, aT, aZ, aS]
     refine fV 3 (v := ?v26Bx3) rfl (by rfl) ?y26Bx3 ?_
     case y26Bx3 => intro w; go_simp; with_reducible rfl
     simp only [aP, aN, aT, aZ, aS]
     refine fV 4 (v := ?v26Bx4) rfl (by rfl) ?y26Bx4 ?_
     case y26Bx4 => intro w; go_simp; with_reducible rfl
     simp only [aP, aN, aT, aZ, aS]
     refine fV 5 (v := ?v26Bx5) rfl (by rfl) ?y26Bx5 ?_
     case y26Bx5 => intro w; go_simp; with_reducible rfl
     simp only [aP, aN, aT, aZ, aS]
     refine fV 6 (v := ?v26Bx6) rfl (by rfl) ?y26Bx6 ?_
     case y26Bx6 => intro w; go_simp; with_reducible rfl
     simp only [aP, aN, aT, aZ, aS]
     refine tV 7 (rg 8 51) (v := ?v26Bx7) rfl (HS.out _ Hst.out) (by rfl) ?y26Bx7 ?_
     case y26Bx7 => rintro w ⟨s0, s1, s2, s3, s4, s5, s6⟩; go_simp; with_reducible rfl
     simp only [aP, aN, aT, aZ, aS]
     refine fV 8 (v := ?v26Bx8) rfl (by rfl) ?y26Bx8 ?_
     case y26Bx8 => intro w; go_simp; with_reducible rfl
     simp only [aP, aN, aT, aZ, aS]
     refine fV 9 (v := ?v26Bx9) rfl (by rfl) ?y26Bx9 ?_
     case y26Bx9 => intro w; go_simp; with_reducible rfl
     simp only [aP, aN, aT, aZ, aS]
     refine fV 10 (v := ?v26Bx10) rfl (by rfl) ?y26Bx10 ?_
     case y26Bx10 => intro w; go_simp; with_reducible rfl
     simp only [aP, aN, aT, aZ, aS]
     refine tV 11 (ix [13, 14, 16, 17, 18, 19, 20, 21, 22, 23, 24, 25, 26, 27, 28, 29, 30, 31, 32, 33, 34, 35, 36, 37, 38, 39, 40, 41, 42, 43, 44, 45, 46, 47, 48, 49, 50, 51]) (v := ?v26Bx11) rfl (HS.out _ Hst.out) (by rfl) ?y26Bx11 ?_
     case y26Bx11 => rintro w ⟨s0, s1, s2, s3, s4, s5, s6⟩; go_simp; with_reducible rfl
     simp only [aP, aN, aT, aZ, aS]
     refine tV 12 (ix [13, 14, 16, 17, 18, 19, 20, 21, 22, 23, 24, 25, 26, 27, 28, 29, 30, 31, 32, 33, 34, 35, 36, 37, 38, 39, 40, 41, 42, 43, 44, 45, 46, 47, 48, 49, 50, 51]) (v := ?v26Bx12) rfl (HS.out _ Hst.out) (by rfl) ?y26Bx12 ?_
     case y26Bx12 => rintro w ⟨s0, s1, s2, s3, s4, s5, s6⟩; go_simp; with_reducible rfl
     simp only [aP, aN, aT, aZ, aS]
     refine fV 13 (v := ?v26Bx13) rfl (by rfl) ?y26Bx13 ?_
     case y26Bx13 => intro w; go_simp; with_reducible rfl
     simp only [aP, aN, aT, aZ, aS]
     refine tV 14 (rg 16 51) (v := ?v26Bx14) rfl (HS.out _ Hst.out) (by rfl) ?y26Bx14 ?_
     case y26Bx14 => rintro w ⟨s0, s1, s2, s3, s4, s5, s6⟩; go_simp; with_reducible rfl
     simp only [aP, aN, aT, aZ, aS]
     refine tG 15 (rg 16 51) rfl (HS.out _ Hst.out) (yieldsIf_load_mid (by rfl) 39 _ rfl wr.heap.size 0 (by rfl) (vcells kv.sc xA xc xA1 kv.keys.length xc1 xA2 kv.kids.length xc2) _ (fun w' h => h.2.2.2.2.2.2) Tryz.underlying39 rfl hi39) ?_
     simp only [aP, aN, aT, aZ, aS]
     refine wpAnyK_oneg 16 (by kernel_rfl) rfl (by rfl) (fun K' hK => ?_)
     go_simp
     refine (Hcall1.out _ Hst.out).mono ?_
     rintro e wq ⟨bq, rfl, hgq, heq⟩
     have Hgq := Lib.hid hgq
     have hw2 : Ext W1 wq := Hst.out.trans heq
     have Hw2 := Lib.hid hw2
     clear hgq heq hw2
     refine hK.out _ _ (fun h => absurd h (by decide)) ?_
     clear hK K'
     simp only [aP, aN, aT, aZ, aS]
     cases bq with
     |false =>
      refine fV 17 (v := ?v26B0x17) rfl (by rfl) ?y26B0x17 ?_
      case y26B0x17 => intro w; go_simp; with_reducible rfl
      simp only [aP, aN, aT, aZ, aS]
      refine fV 18 (v := ?v26B0x18) rfl (by rfl) ?y26B0x18 ?_
      case y26B0x18 => intro w; go_simp; with_reducible rfl
      simp only [aP, aN, aT, aZ, aS]
      refine fV 19 (v := ?v26B0x19) rfl (by rfl) ?y26B0x19 ?_
      case y26B0x19 => intro w; go_simp; with_reducible rfl
      simp only [aP, aN, aT, aZ, aS]
      refine fV 20 (v := ?v26B0x20) rfl (by rfl) ?y26B0x20 ?_
      case y26B0x20 => intro w; go_simp; with_reducible rfl
      simp only [aP, aN, aT, aZ, aS]
      refine fU 21 rfl (by rfl) ?_
      simp only [aP, aN, aT, aZ, aS]
      refine tU 22 (rg 23 51) rfl (HS.out _ Hw2.out) (by rfl) ?_
      simp only [aP, aN, aT, aZ, aS]
      refine fU 23 rfl (by rfl) ?_
      simp only [aP, aN, aT, aZ, aS]
      refine tU 24 (rg 25 51) rfl (HS.out _ Hw2.out) (by rfl) ?_
      simp only [aP, aN, aT, aZ, aS]
      refine wpAnyK_skip 25 (by kernel_rfl) rfl (by rfl) (fun h => absurd h (by decide)) ?_
      simp only [aP, aN, aT, aZ, aS]
      refine fU 26 rfl (by rfl) ?_
      simp only [aP, aN, aT, aZ, aS]
      refine fU 27 rfl (by rfl) ?_
      simp only [aP, aN, aT, aZ, aS]
      refine fU 28 rfl (by rfl) ?_
      simp only [aP, aN, aT, aZ, aS]
      refine tU 29 (rg 30 51) rfl (HS.out _ Hw2.out) (by rfl) ?_
      simp only [aP, aN, aT, aZ, aS]
      refine fU 30 rfl (by rfl) ?_
      simp only [aP, aN, aT, aZ, aS]
      refine fU 31 rfl (by rfl) ?_
      simp only [aP, aN, aT, aZ, aS]
      refine fU 32 rfl (by rfl) ?_
      simp only [aP, aN, aT, aZ, aS]
      refine fU 33 rfl (by rfl) ?_
      simp only [aP, aN, aT, aZ, aS]
      refine tU 34 (rg 36 51) rfl (HS.out _ Hw2.out) (by rfl) ?_
      simp only [aP, aN, aT, aZ, aS]
      refine tU 35 (rg 36 51) rfl (HS.out _ Hw2.out) (by rfl) ?_
      simp only [aP, aN, aT, aZ, aS]
      refine fU 36 rfl (by rfl) ?_
      simp only [aP, aN, aT, aZ, aS]
      refine fU 37 rfl (by rfl) ?_
      simp only [aP, aN, aT, aZ, aS]
      refine tU 38 (rg 39 51) rfl (HS.out _ Hw2.out) (by rfl) ?_
      simp only [aP, aN, aT, aZ, aS]
      refine fU 39 rfl (by rfl) ?_
      simp only [aP, aN, aT, aZ, aS]
      refine fU 40 rfl (by rfl) ?_
      simp only [aP, aN, aT, aZ, aS]
      refine fU 41 rfl (by rfl) ?_
      simp only [aP, aN, aT, aZ, aS]
      refine fU 42 rfl (by rfl) ?_
      simp only [aP, aN, aT, aZ, aS]
      refine tU 43 (rg 45 51) rfl (HS.out _ Hw2.out) (by rfl) ?_
      simp only [aP, aN, aT, aZ, aS]
      refine tU 44 (rg 45 51) rfl (HS.out _ Hw2.out) (by rfl) ?_
      simp only [aP, aN, aT, aZ, aS]
      refine fU 45 rfl (by rfl) ?_
      simp only [aP, aN, aT, aZ, aS]
      refine fU 46 rfl (by rfl) ?_
      simp only [aP, aN, aT, aZ, aS]
      refine tU 47 (rg 48 51) rfl (HS.out _ Hw2.out) (by rfl) ?_
      simp only [aP, aN, aT, aZ, aS]
      refine fU 48 rfl (by rfl) ?_
      simp only [aP, aN, aT, aZ, aS]
      refine fU 49 rfl (by rfl) ?_
      simp only [aP, aN, aT, aZ, aS]
      refine fU 50 rfl (by rfl) ?_
      simp only [aP, aN, aT, aZ, aS]
      refine fV 51 (v := ?v26B0x51) rfl (by rfl) ?y26B0x51 ?_
      case y26B0x51 => intro w; go_simp; with_reducible rfl
      simp only [aP, aN, aT, aZ, aS]
      refine wpAnyK_done (by kernel_rfl) ?_ _
      go_wp2_with fail
      go_ret
      exact AnsB.mk (by simp) (Hx1.out.trans Hw2.out)
     |true =>
      refine fV 17 (v := ?v26B1x17) rfl (by rfl) ?y26B1x17 ?_
      case y26B1x17 => intro w; go_simp; with_reducible rfl
      simp only [aP, aN, aT, aZ, aS]
      refine fV 18 (v := ?v26B1x18) rfl (by rfl) ?y26B1x18 ?_
      case y26B1x18 => intro w; go_simp; with_reducible rfl
      simp only [aP, aN, aT, aZ, aS]
      refine fV 19 (v := ?v26B1x19) rfl (by rfl) ?y26B1x19 ?_
      case y26B1x19 => intro w; go_simp; with_reducible rfl
      simp only [aP, aN, aT, aZ, aS]
      refine fV 20 (v := ?v26B1x20) rfl (by rfl) ?y26B1x20 ?_
      case y26B1x20 => intro w; go_simp; with_reducible rfl
      simp only [aP, aN, aT, aZ, aS]
      refine fV 21 (v := ?v26B1x21) rfl (by rfl) ?y26B1x21 ?_
      case y26B1x21 => intro w; go_simp; with_reducible rfl
      simp only [aP, aN, aT, aZ, aS]
      refine tV 22 (rg 23 51) (v := ?v26B1x22) rfl (HS.out _ Hw2.out) (by rfl) ?y26B1x22 ?_
      case y26B1x22 => rintro w ⟨s0, s1, s2, s3, s4, s5, s6⟩; go_simp; with_reducible rfl
      simp only [aP, aN, aT, aZ, aS]
      refine fV 23 (v := ?v26B1x23) rfl (by rfl) ?y26B1x23 ?_
      case y26B1x23 => intro w; go_simp; with_reducible rfl
      simp only [aP, aN, aT, aZ, aS]
      refine tU 24 (rg 25 51) rfl (HS.out _ Hw2.out) (by rfl) ?_
      simp only [aP, aN, aT, aZ, aS]
      refine wpAnyK_skip 25 (by kernel_rfl) rfl (by rfl) (fun h => absurd h (by decide)) ?_
      simp only [aP, aN, aT, aZ, aS]
      refine fU 26 rfl (by rfl) ?_
      simp only [aP, aN, aT, aZ, aS]
      refine fU 27 rfl (by rfl) ?_
      simp only [aP, aN, aT, aZ, aS]
      refine fU 28 rfl (by rfl) ?_
      simp only [aP, aN, aT, aZ, aS]
      refine tU 29 (rg 30 51) rfl (HS.out _ Hw2.out) (by rfl) ?_
      simp only [aP, aN, aT, aZ, aS]
      refine fU 30 rfl (by rfl) ?_
      simp only [aP, aN, aT, aZ, aS]
      refine fU 31 rfl (by rfl) ?_
      simp only [aP, aN, aT, aZ, aS]
      refine fU 32 rfl (by rfl) ?_
      simp only [aP, aN, aT, aZ, aS]
      refine fU 33 rfl (by rfl) ?_
      simp only [aP, aN, aT, aZ, aS]
      refine tU 34 (rg 36 51) rfl (HS.out _ Hw2.out) (by rfl) ?_
      simp only [aP, aN, aT, aZ, aS]
      refine tU 35 (rg 36 51) rfl (HS.out _ Hw2.out) (by rfl) ?_
      simp only [aP, aN, aT, aZ, aS]
      refine fU 36 rfl (by rfl) ?_
      simp only [aP, aN, aT, aZ, aS]
      refine fU 37 rfl (by rfl) ?_
      simp only [aP, aN, aT, aZ, aS]
      refine tU 38 (rg 39 51) rfl (HS.out _ Hw2.out) (by rfl) ?_
      simp only [aP, aN, aT, aZ, aS]
      refine fU 39 rfl (by rfl) ?_
      simp only [aP, aN, aT, aZ, aS]
      refine fU 40 rfl (by rfl) ?_
      simp only [aP, aN, aT, aZ, aS]
      refine fU 41 rfl (by rfl) ?_
      simp only [aP, aN, aT, aZ, aS]
      refine fU 42 rfl (by rfl) ?_
      simp only [aP, aN, aT, aZ, aS]
      refine tU 43 (rg 45 51) rfl (HS.out _ Hw2.out) (by rfl) ?_
      simp only [aP, aN, aT, aZ, aS]
      refine tU 44 (rg 45 51) rfl (HS.out _ Hw2.out) (by rfl) ?_
      simp only [aP, aN, aT, aZ, aS]
      refine fU 45 rfl (by rfl) ?_
      simp only [aP, aN, aT, aZ, aS]
      refine fU 46 rfl (by rfl) ?_
      simp only [aP, aN, aT, aZ, aS]
      refine tU 47 (rg 48 51) rfl (HS.out _ Hw2.out) (by rfl) ?_
      simp only [aP, aN, aT, aZ, aS]
      refine fU 48 rfl (by rfl) ?_
      simp only [aP, aN, aT, aZ, aS]
      refine fU 49 rfl (by rfl) ?_
      simp only [aP, aN, aT, aZ, aS]
      refine fV 50 (v := ?v26B1x50) rfl (by rfl) ?y26B1x50 ?_
      case y26B1x50 => intro w; go_simp; with_reducible rfl
      simp only [aP, aN, aT, aZ, aS]
      refine fV 51 (v := ?v26B1x51) rfl (by rfl) ?y26B1x51 ?_
      case y26B1x51 => intro w; go_simp; with_reducible rfl
      simp only [aP, aN, aT, aZ, aS]
      refine wpAnyK_done (by kernel_rfl) ?_ _
      go_wp2_with fail
      go_roundw
      case rel =>
       refine ⟨i + 1, by omega, rfl, HW.out.trans (HE1.out.trans Hw2.out), fun j t k hj ht hkk => ?_⟩
       by_cases hji : j = i
       ·subst hji
        have e := ht.symm.trans Hkt.out
        injection e with e
        subst e
        have e := hkk.symm.trans Hky.out
        injection e with e
        subst e
        exact .inl (Hgq.out (by simp))
       ·exact HG.out j t k (by omega) ht hkk
      case measure => simp [intOf]; omega
    |true =>
     rw [hnul] at HS
     have Hnul := Lib.hid hnul
     clear hnul
     refine wp_region_K (fun w' => w'.cell? ⟨w.heap.size, 0, none⟩ = some (.int .i64 T.kind) ∧ w'.cell? ⟨w.heap.size, 1, none⟩ = some (.slice (some ⟨tb, tx, none⟩) T.kids.length bc) ∧ w'.cell? ⟨tb, tx + i * 3, none⟩ = some (.int .i64 kt.kind) ∧ w'.cell? ⟨tb, tx + i * 3 + 1, none⟩ = some (.slice yA kt.kids.length yc) ∧ w'.cell? ⟨tb, tx + i * 3 + 2, none⟩ = some (.slice yA' kt.names.length yc') ∧ w'.cell? ⟨wr.heap.size, 0, none⟩ = some (.bool true) ∧ w'.rangeAt wr.heap.size 0 (vcells kv.sc xA xc xA1 kv.keys.length xc1 xA2 kv.kids.length xc2)) (ix [2, 7, 11, 12, 14, 15, 22, 24, 29, 34, 35, 38, 43, 44, 47]) 52 [false, false, false, false, false, false, false, false, false, false, false, false, false, false, false, false, false, false, false, false, false, false, false, false, false, false, false, false, false, false, false, false, false, false, false, false, false, false, false, false, false, false, false, false, false, false, false, false, false, false, false, false] (by kernel_rfl) rfl rfl ?_
     refine fV 0 (v := ?v26Cx0) rfl (by rfl) ?y26Cx0 ?_
     case y26Cx0 => intro w; go_simp; with_reducible rfl
     simp only [aP, aN, aT, aZ, aS]
     refine fV 1 (v := ?v26Cx1) rfl (by rfl) ?y26Cx1 ?_
     case y26Cx1 => intro w; go_simp; with_reducible rfl
     simp only [aP, aN, aT, aZ, aS]
     refine tV 2 (rg 3 51) (v := ?v26Cx2) rfl (HS.out _ Hst.out) (by rfl) ?y26Cx2 ?_
     case y26Cx2 => rintro w ⟨s0, s1, s2, s3, s4, s5, s6⟩; go_simp; with_reducible rfl
     simp only [aP, aN, aT, aZ, aS]
     refine fV 3 (v := ?v26Cx3) rfl (by rfl) ?y26Cx3 ?_
     case y26Cx3 => intro w; go_simp; with_reducible rfl
     simp only [aP, aN, aT, aZ, aS]
     refine fV 4 (v := ?v26Cx4) rfl (by rfl) ?y26Cx4 ?_
     case y26Cx4 => intro w; go_simp; with_reducible rfl
     simp only [aP, aN, aT, aZ, aS]
     refine fV 5 (v := ?v26Cx5) rfl (by rfl) ?y26Cx5 ?_
     case y26Cx5 => intro w; go_simp; with_reducible rfl
     simp only [aP, aN, aT, aZ, aS]
     refine fV 6 (v := ?v26Cx6) rfl (by rfl) ?y26Cx6 ?_
     case y26Cx6 => intro w; go_simp; with_reducible rfl
     simp only [aP, aN, aT, aZ, aS]
     refine tV 7 (rg 8 51) (v := ?v26Cx7) rfl (HS.out _ Hst.out) (by rfl) ?y26Cx7 ?_
     case y26Cx7 => rintro w ⟨s0, s1, s2, s3, s4, s5, s6⟩; go_simp; with_reducible rfl
     simp only [aP, aN, aT, aZ, aS]
     refine fV 8 (v := ?v26Cx8) rfl (by rfl) ?y26Cx8 ?_
     case y26Cx8 => intro w; go_simp; with_reducible rfl
     simp only [aP, aN, aT, aZ, aS]
     refine fV 9 (v := ?v26Cx9) rfl (by rfl) ?y26Cx9 ?_
     case y26Cx9 => intro w; go_simp; with_reducible rfl
     simp only [aP, aN, aT, aZ, aS]
     refine fU 10 rfl (by rfl) ?_
     simp only [aP, aN, aT, aZ, aS]
     refine tU 11 (ix [13, 14, 16, 17, 18, 19, 20, 21, 22, 23, 24, 25, 26, 27, 28, 29, 30, 31, 32, 33, 34, 35, 36, 37, 38, 39, 40, 41, 42, 43, 44, 45, 46, 47, 48, 49, 50, 51]) rfl (HS.out _ Hst.out) (by rfl) ?_
     simp only [aP, aN, aT, aZ, aS]
     refine tU 12 (ix [13, 14, 16, 17, 18, 19, 20, 21, 22, 23, 24, 25, 26, 27, 28, 29, 30, 31, 32, 33, 34, 35, 36, 37, 38, 39, 40, 41, 42, 43, 44, 45, 46, 47, 48, 49, 50, 51]) rfl (HS.out _ Hst.out) (by rfl) ?_
     simp only [aP, aN, aT, aZ, aS]
     refine fU 13 rfl (by rfl) ?_
     simp only [aP, aN, aT, aZ, aS]
     refine tU 14 (rg 16 51) rfl (HS.out _ Hst.out) (by rfl) ?_
     simp only [aP, aN, aT, aZ, aS]
     refine tU 15 (rg 16 51) rfl (HS.out _ Hst.out) (by rfl) ?_
     simp only [aP, aN, aT, aZ, aS]
     refine wpAnyK_skip 16 (by kernel_rfl) rfl (by rfl) (fun h => absurd h (by decide)) ?_
     simp only [aP, aN, aT, aZ, aS]
     refine fU 17 rfl (by rfl) ?_
     simp only [aP, aN, aT, aZ, aS]
     refine fV 18 (v := ?v26Cx18) rfl (by rfl) ?y26Cx18 ?_
     case y26Cx18 => intro w; go_simp; with_reducible rfl
     simp only [aP, aN, aT, aZ, aS]
     refine fV 19 (v := ?v26Cx19) rfl (by rfl) ?y26Cx19 ?_
     case y26Cx19 => intro w; go_simp; with_reducible rfl
     simp only [aP, aN, aT, aZ, aS]
     refine fV 20 (v := ?v26Cx20) rfl (by rfl) ?y26Cx20 ?_
     case y26Cx20 => intro w; go_simp; with_reducible rfl
     simp only [aP, aN, aT, aZ, aS]
     refine fV 21 (v := ?v26Cx21) rfl (by rfl) ?y26Cx21 ?_
     case y26Cx21 => intro w; go_simp; with_reducible rfl
     simp only [aP, aN, aT, aZ, aS]
     refine tV 22 (rg 23 51) (v := ?v26Cx22) rfl (HS.out _ Hst.out) (by rfl) ?y26Cx22 ?_
     case y26Cx22 => rintro w ⟨s0, s1, s2, s3, s4, s5, s6⟩; go_simp; with_reducible rfl
     simp only [aP, aN, aT, aZ, aS]
     refine fV 23 (v := ?v26Cx23) rfl (by rfl) ?y26Cx23 ?_
     case y26Cx23 => intro w; go_simp; with_reducible rfl
     simp only [aP, aN, aT, aZ, aS]
     refine tG 24 (rg 25 51) rfl (HS.out _ Hst.out) (yieldsIf_load_mid (by rfl) 39 _ rfl wr.heap.size 0 (by rfl) (vcells kv.sc xA xc xA1 kv.keys.length xc1 xA2 kv.kids.length xc2) _ (fun w' h => h.2.2.2.2.2.2) Tryz.underlying39 rfl hi39) ?_
     simp only [aP, aN, aT, aZ, aS]
     refine wpAnyK_oneg 25 (by kernel_rfl) rfl (by rfl) (fun K' hK => ?_)
     go_simp
     refine (Hcall2.out _ Hst.out).mono ?_
     rintro e wq ⟨bq, rfl, hgq, heq⟩
     have Hgq := Lib.hid hgq
     have hw2 : Ext W1 wq := Hst.out.trans heq
     have Hw2 := Lib.hid hw2
     clear hgq heq hw2
     refine hK.out _ _ (fun h => absurd h (by decide)) ?_
     clear hK K'
     simp only [aP, aN, aT, aZ, aS]
     cases bq with
     |false =>
      refine fV 26 (v := ?v26C0x26) rfl (by rfl) ?y26C0x26 ?_
      case y26C0x26 => intro w; go_simp; with_reducible rfl
      simp only [aP, aN, aT, aZ, aS]
      refine fV 27 (v := ?v26C0x27) rfl (by rfl) ?y26C0x27 ?_
      case y26C0x27 => intro w; go_simp; with_reducible rfl
      simp only [aP, aN, aT, aZ, aS]
      refine fU 28 rfl (by rfl) ?_
      simp only [aP, aN, aT, aZ, aS]
      refine tU 29 (rg 30 51) rfl (HS.out _ Hw2.out) (by rfl) ?_
      simp only [aP, aN, aT, aZ, aS]
      refine fU 30 rfl (by rfl) ?_
      simp only [aP, aN, aT, aZ, aS]
      refine fV 31 (v := ?v26C0x31) rfl (by rfl) ?y26C0x31 ?_
      case y26C0x31 => intro w; go_simp; with_reducible rfl
      simp only [aP, aN, aT, aZ, aS]
      refine fV 32 (v := ?v26C0x32) rfl (by rfl) ?y26C0x32 ?_
      case y26C0x32 => intro w; go_simp; with_reducible rfl
      simp only [aP, aN, aT, aZ, aS]
      refine fU 33 rfl (by rfl) ?_
      simp only [aP, aN, aT, aZ, aS]
      refine tU 34 (rg 36 51) rfl (HS.out _ Hw2.out) (by rfl) ?_
      simp only [aP, aN, aT, aZ, aS]
      refine tU 35 (rg 36 51) rfl (HS.out _ Hw2.out) (by rfl) ?_
      simp only [aP, aN, aT, aZ, aS]
      refine fU 36 rfl (by rfl) ?_
      simp only [aP, aN, aT, aZ, aS]
      refine fU 37 rfl (by rfl) ?_
      simp only [aP, aN, aT, aZ, aS]
      refine tU 38 (rg 39 51) rfl (HS.out _ Hw2.out) (by rfl) ?_
      simp only [aP, aN, aT, aZ, aS]
      refine fU 39 rfl (by rfl) ?_
      simp only [aP, aN, aT, aZ, aS]
      refine fV 40 (v := ?v26C0x40) rfl (by rfl) ?y26C0x40 ?_
      case y26C0x40 => intro w; go_simp; with_reducible rfl
      simp only [aP, aN, aT, aZ, aS]
      refine fV 41 (v := ?v26C0x41) rfl (by rfl) ?y26C0x41 ?_
      case y26C0x41 => intro w; go_simp; with_reducible rfl
      simp only [aP, aN, aT, aZ, aS]
      refine fU 42 rfl (by rfl) ?_
      simp only [aP, aN, aT, aZ, aS]
      refine tU 43 (rg 45 51) rfl (HS.out _ Hw2.out) (by rfl) ?_
      simp only [aP, aN, aT, aZ, aS]
      refine tU 44 (rg 45 51) rfl (HS.out _ Hw2.out) (by rfl) ?_
      simp only [aP, aN, aT, aZ, aS]
      refine fU 45 rfl (by rfl) ?_
      simp only [aP, aN, aT, aZ, aS]
      refine fU 46 rfl (by rfl) ?_
      simp only [aP, aN, aT, aZ, aS]
      refine tU 47 (rg 48 51) rfl (HS.out _ Hw2.out) (by rfl) ?_
      simp only [aP, aN, aT, aZ, aS]
      refine fU 48 rfl (by rfl) ?_
      simp only [aP, aN, aT, aZ, aS]
      refine fV 49 (v := ?v26C0x49) rfl (by rfl) ?y26C0x49 ?_
      case y26C0x49 => intro w; go_simp; with_reducible rfl
      simp only [aP, aN, aT, aZ, aS]
      refine fV 50 (v := ?v26C0x50) rfl (by rfl) ?y26C0x50 ?_
      case y26C0x50 => intro w; go_simp; with_reducible rfl
      simp only [aP, aN, aT, aZ, aS]
      refine fV 51 (v := ?v26C0x51) rfl (by rfl) ?y26C0x51 ?_
      case y26C0x51 => intro w; go_simp; with_reducible rfl
      simp only [aP, aN, aT, aZ, aS]
      refine wpAnyK_done (by kernel_rfl) ?_ _
      go_wp2_with fail
      go_ret
      exact AnsB.mk (by simp) (Hx1.out.trans Hw2.out)
     |true =>
      refine fV 26 (v := ?v26C1x26) rfl (by rfl) ?y26C1x26 ?_
      case y26C1x26 => intro w; go_simp; with_reducible rfl
      simp only [aP, aN, aT, aZ, aS]
      refine fV 27 (v := ?v26C1x27) rfl (by rfl) ?y26C1x27 ?_
      case y26C1x27 => intro w; go_simp; with_reducible rfl
      simp only [aP, aN, aT, aZ, aS]
      refine fV 28 (v := ?v26C1x28) rfl (by rfl) ?y26C1x28 ?_
      case y26C1x28 => intro w; go_simp; with_reducible rfl
      simp only [aP, aN, aT, aZ, aS]
      refine tV 29 (rg 30 51) (v := ?v26C1x29) rfl (HS.out _ Hw2.out) (by rfl) ?y26C1x29 ?_
      case y26C1x29 => rintro w ⟨s0, s1, s2, s3, s4, s5, s6⟩; go_simp; with_reducible rfl
      simp only [aP, aN, aT, aZ, aS]
      refine fV 30 (v := ?v26C1x30) rfl (by rfl) ?y26C1x30 ?_
      case y26C1x30 => intro w; go_simp; with_reducible rfl
      simp only [aP, aN, aT, aZ, aS]
      refine fV 31 (v := ?v26C1x31) rfl (by rfl) ?y26C1x31 ?_
      case y26C1x31 => intro w; go_simp; with_reducible rfl
      simp only [aP, aN, aT, aZ, aS]
      refine fV 32 (v := ?v26C1x32) rfl (by rfl) ?y26C1x32 ?_
      case y26C1x32 => intro w; go_simp; with_reducible rfl
      simp only [aP, aN, aT, aZ, aS]
      refine fU 33 rfl (by rfl) ?_
      simp only [aP, aN, aT, aZ, aS]
      refine tU 34 (rg 36 51) rfl (HS.out _ Hw2.out) (by rfl) ?_
      simp only [aP, aN, aT, aZ, aS]
      refine tU 35 (rg 36 51) rfl (HS.out _ Hw2.out) (by rfl) ?_
      simp only [aP, aN, aT, aZ, aS]
      refine fU 36 rfl (by rfl) ?_
      simp only [aP, aN, aT, aZ, aS]
      refine fU 37 rfl (by rfl) ?_
      simp only [aP, aN, aT, aZ, aS]
      refine tU 38 (rg 39 51) rfl (HS.out _ Hw2.out) (by rfl) ?_
      simp only [aP, aN, aT, aZ, aS]
      refine fU 39 rfl (by rfl) ?_
      simp only [aP, aN, aT, aZ, aS]
      refine fV 40 (v := ?v26C1x40) rfl (by rfl) ?y26C1x40 ?_
      case y26C1x40 => intro w; go_simp; with_reducible rfl
      simp only [aP, aN, aT, aZ, aS]
      refine fV 41 (v := ?v26C1x41) rfl (by rfl) ?y26C1x41 ?_
      case y26C1x41 => intro w; go_simp; with_reducible rfl
      simp only [aP, aN, aT, aZ, aS]
      refine fU 42 rfl (by rfl) ?_
      simp only [aP, aN, aT, aZ, aS]
      refine tU 43 (rg 45 51) rfl (HS.out _ Hw2.out) (by rfl) ?_
      simp only [aP, aN, aT, aZ, aS]
      refine tU 44 (rg 45 51) rfl (HS.out _ Hw2.out) (by rfl) ?_
      simp only [aP, aN, aT, aZ, aS]
      refine fU 45 rfl (by rfl) ?_
      simp only [aP, aN, aT, aZ, aS]
      refine fU 46 rfl (by rfl) ?_
      simp only [aP, aN, aT, aZ, aS]
      refine tU 47 (rg 48 51) rfl (HS.out _ Hw2.out) (by rfl) ?_
      simp only [aP, aN, aT, aZ, aS]
      refine fU 48 rfl (by rfl) ?_
      simp only [aP, aN, aT, aZ, aS]
      refine fV 49 (v := ?v26C1x49) rfl (by rfl) ?y26C1x49 ?_
      case y26C1x49 => intro w; go_simp; with_reducible rfl
      simp only [aP, aN, aT, aZ, aS]
      refine fV 50 (v := ?v26C1x50) rfl (by rfl) ?y26C1x50 ?_
      case y26C1x50 => intro w; go_simp; with_reducible rfl
      simp only [aP, aN, aT, aZ, aS]
      refine fV 51 (v := ?v26C1x51) rfl (by rfl) ?y26C1x51 ?_
      case y26C1x51 => intro w; go_simp; with_reducible rfl
      simp only [aP, aN, aT, aZ, aS]
      refine wpAnyK_done (by kernel_rfl) ?_ _
      go_wp2_with fail
      go_ret
      exact AnsB.mk (by simp) (Hx1.out.trans Hw2.out)
  ·obtain rfl : i = V.kids.length := by omega
   have hT1 := (HB1.out.ext HW.out)
   have hT2 := (HB2.out.ext HW.out)
   obtain ⟨b0, b1, b2⟩ := hT1.c3
   obtain ⟨d0, d1, d2, d3, d4, d5, d6, d7, d8, d9, d10⟩ := hT2.c11
   have hltw := hT2.lt
   clear hT1 hT2
   by_cases hk0 : V.keys.length = 0
   ·have u0 : ((V.keys.length : Int) == 0) = true := by simp [hk0]
    have Hk0 := Lib.hid hk0
    clear hk0
    go_wp2_with fail
    go_ret
    refine AnsB.mk (fun hq => ?_) HX.out
    have hq' : V.kids.length = T.kids.length := Int.ofNat_inj.1 (eq_of_beq hq)
    exact ⟨Hn.out, hlen, .inr (.inr (.inr ⟨.inl Hk.out, List.length_eq_zero_iff.1 Hk0.out, hq', fun j t k ht hkk => HG.out j t k (by have := (List.getElem?_eq_some_iff.1 hkk).1; exact this) ht hkk⟩))⟩
   ·have u0 : ((V.keys.length : Int) == 0) = false := beq_eq_false_iff_ne.2 (by omega)
    clear hk0
    go_wp2_with fail
    go_ret
    exact AnsB.mk (by simp) HX.out
set_option maxRecDepth 100000 in
set_option maxHeartbeats 40000000 in
theorem tuple_kids49 (n : Nat) (hp : PropP n) (m m2 : Nat) (w : World) (tv : Value) (T : Ty) (vs : List Value) (V : Vl) (hT : TyAt (fun _ => False) m w tv T) (hV : VlAt (fun _ => False) m2 w vs V) (hG : Good (n + 1) T) (hn : V.sc.nul = false)
  (hk : T.kind = 49) (hlen : V.kids.length ≤ 20) :
  Calls Tryz.prog 44 #[tv, .agg vs.toArray] w (AnsB (fun b => b = true → GoodV (n + 1) T V) w) := by
 obtain ⟨B, bc, B', bc', rfl⟩ := hT.form
 cases m2 with
 |zero => exact hV.elim
 |succ m2 =>
 cases m with
 |zero => exact hT.elim
 |succ m =>
 have HTK : Hid (∀ i t, T.kids[i]? = some t → _) := Lib.hid (fun i t ht => tkid_at hT ht)
 have HGK := Lib.hid (fun t (ht : t ∈ T.kids) => hG.1 t ht)
 obtain ⟨A, c, A1, c1, A2, c2, rfl, q1, q2, q3, q4, q5, q6, hs, hd, hrow1, hrow⟩ := hV
 have HR := Lib.hid hrow
 have Hp := Lib.hid hp
 have Hn := Lib.hid hn
 clear hT hs hG hd hrow hrow1 hp hn
 simp only [vcells]
 unfold maxLen at q2 q4 q6
 have t32 : (T.kind == 32) = false := by simp [hk]
 have t34 : (T.kind == 34) = false := by simp [hk]
 have t33 : (T.kind == 33) = false := by simp [hk]
 have t49 : (T.kind == 49) = true := by simp [hk]
 have t48 : (T.kind == 48) = false := by simp [hk]
 have Hk := Lib.hid hk
 clear hk
 go_enter Tryz.func44, Tryz.ntmps44
 go_wp2_with fail
 generalize hW : World.alloc (World.alloc w _) _ = wa
 have h0 : Blk wa w.heap.size 35 #[.int .i64 T.kind, .slice B T.kids.length bc, .slice B' T.names.length bc'] ∧ Blk wa (w.heap.size + 1) 39 #[.bool V.sc.nul, .int .i64 V.sc.n, .float .f64 V.sc.f, .string V.sc.text, .slice A V.sc.data.length c, .int .i64 V.sc.scale, .int .i64 V.sc.months, .int .i64 V.sc.days, .int .i64 V.sc.nanos, .slice A1 V.keys.length c1, .slice A2 V.kids.length c2] ∧ Ext w wa := by
  rw [← hW]
  exact ⟨(Blk.new w 35 _).alloc _, Blk.new' _ _ 39 _ (by simp), ((Ext.refl w).alloc _).alloc _⟩
 clear hW
 obtain ⟨hb1, hb2, hE⟩ := h0
 have HB1 := Lib.hid hb1
 have HB2 := Lib.hid hb2
 have HE := Lib.hid hE
 clear hb1 hb2 hE
 go_loopw [91] (fun v wr => ∃ i : Nat, i ≤ V.kids.length ∧ v = .int .i64 i ∧ Ext wa wr ∧ ∀ (j : Nat) (t : Ty) (k : Vl), j < i → T.kids[j]? = some t → V.kids[j]? = some k → GoodV n t k ∨ (T.kind = 49 ∧ k.sc.nul = true ∧ k.kids = [] ∧ k.keys = [])) (fun v _ => V.kids.length - (intOf v).toNat)
 case atStart => exact ⟨0, Nat.zero_le _, rfl, Ext.refl _, fun j t k h => by omega⟩
 case round =>
  obtain ⟨i, hi, rfl, hE, hgood⟩ := hrel
  have HW := Lib.hid hE
  have HG := Lib.hid hgood
  clear hE hgood
  have hEx : Ext w wr := HE.out.trans HW.out
  have HX := Lib.hid hEx
  clear hEx
  by_cases hlti : (i : Int) < V.kids.length
  ·have hi' : i < V.kids.length := by omega
   have hky : V.kids[i]? = some V.kids[i] := List.getElem?_eq_getElem hi'
   obtain ⟨b, o, xA, xc, xA1, xc1, xA2, xc2, hA, hb, hx, hrg⟩ := kid_at HR.out hky
   generalize V.kids[i] = kv at hky hx hrg
   subst hA
   have HK := Lib.hid (VlAt.onx (Onx.of_ext HX.out _) _ _ _ hx)
   have Hky := Lib.hid hky
   have hrange : wr.rangeAt b (o + i * 11) (vcells kv.sc xA xc xA1 kv.keys.length xc1 xA2 kv.kids.length xc2) := fun j u hu => HX.out.cellS (hrg j u hu)
   have Hrange := Lib.hid hrange
   clear hx hky hrg hrange
   go_upto_region 25 with fail
   refine wp_region_lit ?_
   iterate 2 (refine wpList_plain rfl (fun K hK => ?_); go_simp; refine hK _ _ ?_; clear hK K; try simp only [aP, aN, aT, aZ, aS])
   refine wpList_load_mid rfl 39 _ rfl b (o + i * 11) (by rfl) (vcells kv.sc xA xc xA1 kv.keys.length xc1 xA2 kv.kids.length xc2) _ Hrange.out Tryz.underlying39 rfl hi39 ?_
   try simp only [aP, aN, aT, aZ, aS]
   iterate 2 (refine wpList_plain rfl (fun K hK => ?_); go_simp; refine hK _ _ ?_; clear hK K; try simp only [aP, aN, aT, aZ, aS])
   refine wpList_store_mid rfl 39 _ _ rfl wr.heap.size 0 (vcells kv.sc xA xc xA1 kv.keys.length xc1 xA2 kv.kids.length xc2).toArray (by rfl) (by rfl) ((Blk.new wr 39 #[.bool false, .int .i64 0, .float .f64 0, .string ⟨#[]⟩, .slice none 0 0, .int .i64 0, .int .i64 0, .int .i64 0, .int .i64 0, .slice none 0 0, .slice none 0 0]).there rfl) hi39 (by simp [vcells, Value.oneCell']) ?_
   generalize hW1 : World.setCells _ _ _ _ = W1
   have hB1 : Blk W1 wr.heap.size 39 (vcells kv.sc xA xc xA1 kv.keys.length xc1 xA2 kv.kids.length xc2).toArray := by
    rw [← hW1]
    exact Blk.setCells (Blk.new wr 39 #[.bool false, .int .i64 0, .float .f64 0, .string ⟨#[]⟩, .slice none 0 0, .int .i64 0, .int .i64 0, .int .i64 0, .int .i64 0, .slice none 0 0, .slice none 0 0]) rfl
   have hE1 : Ext wr W1 := by
    rw [← hW1]
    exact setCells_ext (Nat.le_refl _) _ _ _ ((Ext.refl wr).alloc _)
   have HE1 := Lib.hid hE1
   have HB9 := Lib.hid hB1
   have hlt1 := hB1.lt
   clear hW1 hB1 hE1
   by_cases hge : (T.kids.length : Int) ≤ i
   ·have hge' : decide ((T.kids.length : Int) ≤ (i : Int)) = true := by simp [hge]
    have hT1 := ((HB1.out.ext HW.out).ext HE1.out).c3
    obtain ⟨b0, b1, b2⟩ := hT1
    have hltw := ((HB1.out.ext HW.out).ext HE1.out).lt
    have b1' : W1.drew.cell? ⟨w.heap.size, 1, none⟩ = some (.slice B T.kids.length bc) := b1
    clear b0 b1 b2
    go_upto_region 26 with fail
    refine wp_region_K (fun w' => w'.cell? ⟨w.heap.size, 1, none⟩ = some (.slice B T.kids.length bc)) (ix [2, 7, 11, 12, 14, 15, 22, 24, 29, 34, 35, 38, 43, 44, 47]) 52 [false, false, false, false, false, false, false, false, false, false, false, false, false, false, false, false, false, false, false, false, false, false, false, false, false, false, false, false, false, false, false, false, false, false, false, false, false, false, false, false, false, false, false, false, false, false, false, false, false, false, false, false] (by kernel_rfl) rfl rfl ?_
    refine fV 0 (v := ?v26Hx0) rfl (by rfl) ?y26Hx0 ?_
    case y26Hx0 => intro w; go_simp; with_reducible rfl
    simp only [aP, aN, aT, aZ, aS]
    refine fV 1 (v := ?v26Hx1) rfl (by rfl) ?y26Hx1 ?_
    case y26Hx1 => intro w; go_simp; with_reducible rfl
    simp only [aP, aN, aT, aZ, aS]
    refine tV 2 (rg 3 51) (v := ?v26Hx2) rfl b1' (by rfl) ?y26Hx2 ?_
    case y26Hx2 => rintro w s0; go_simp; with_reducible rfl
    simp only [aP, aN, aT, aZ, aS]
    refine fV 3 (v := ?v26Hx3) rfl (by rfl) ?y26Hx3 ?_
    case y26Hx3 => intro w; go_simp; with_reducible rfl
    simp only [aP, aN, aT, aZ, aS]
    refine fV 4 (v := ?v26Hx4) rfl (by rfl) ?y26Hx4 ?_
    case y26Hx4 => intro w; go_simp; with_reducible rfl
    simp only [aP, aN, aT, aZ, aS]
    refine fV 5 (v := ?v26Hx5) rfl (by rfl) ?y26Hx5 ?_
    case y26Hx5 => intro w; go_simp; with_reducible rfl
    simp only [aP, aN, aT, aZ, aS]
    refine fU 6 rfl (by rfl) ?_
    simp only [aP, aN, aT, aZ, aS]
    refine tU 7 (rg 8 51) rfl b1' (by rfl) ?_
    simp only [aP, aN, aT, aZ, aS]
    refine fU 8 rfl (by rfl) ?_
    simp only [aP, aN, aT, aZ, aS]
    refine fU 9 rfl (by rfl) ?_
    simp only [aP, aN, aT, aZ, aS]
    refine fU 10 rfl (by rfl) ?_
    simp only [aP, aN, aT, aZ, aS]
    refine tU 11 (ix [13, 14, 16, 17, 18, 19, 20, 21, 22, 23, 24, 25, 26, 27, 28, 29, 30, 31, 32, 33, 34, 35, 36, 37, 38, 39, 40, 41, 42, 43, 44, 45, 46, 47, 48, 49, 50, 51]) rfl b1' (by rfl) ?_
    simp only [aP, aN, aT, aZ, aS]
    refine tU 12 (ix [13, 14, 16, 17, 18, 19, 20, 21, 22, 23, 24, 25, 26, 27, 28, 29, 30, 31, 32, 33, 34, 35, 36, 37, 38, 39, 40, 41, 42, 43, 44, 45, 46, 47, 48, 49, 50, 51]) rfl b1' (by rfl) ?_
    simp only [aP, aN, aT, aZ, aS]
    refine fU 13 rfl (by rfl) ?_
    simp only [aP, aN, aT, aZ, aS]
    refine tU 14 (rg 16 51) rfl b1' (by rfl) ?_
    simp only [aP, aN, aT, aZ, aS]
    refine tU 15 (rg 16 51) rfl b1' (by rfl) ?_
    simp only [aP, aN, aT, aZ, aS]
    refine wpAnyK_skip 16 (by kernel_rfl) rfl (by rfl) (fun h => absurd h (by decide)) ?_
    simp only [aP, aN, aT, aZ, aS]
    refine fU 17 rfl (by rfl) ?_
    simp only [aP, aN, aT, aZ, aS]
    refine fU 18 rfl (by rfl) ?_
    simp only [aP, aN, aT, aZ, aS]
    refine fV 19 (v := ?v26Hx19) rfl (by rfl) ?y26Hx19 ?_
    case y26Hx19 => intro w; go_simp; with_reducible rfl
    simp only [aP, aN, aT, aZ, aS]
    refine fV 20 (v := ?v26Hx20) rfl (by rfl) ?y26Hx20 ?_
    case y26Hx20 => intro w; go_simp; with_reducible rfl
    simp only [aP, aN, aT, aZ, aS]
    refine fU 21 rfl (by rfl) ?_
    simp only [aP, aN, aT, aZ, aS]
    refine tU 22 (rg 23 51) rfl b1' (by rfl) ?_
    simp only [aP, aN, aT, aZ, aS]
    refine fU 23 rfl (by rfl) ?_
    simp only [aP, aN, aT, aZ, aS]
    refine tU 24 (rg 25 51) rfl b1' (by rfl) ?_
    simp only [aP, aN, aT, aZ, aS]
    refine wpAnyK_skip 25 (by kernel_rfl) rfl (by rfl) (fun h => absurd h (by decide)) ?_
    simp only [aP, aN, aT, aZ, aS]
    refine fU 26 rfl (by rfl) ?_
    simp only [aP, aN, aT, aZ, aS]
    refine fU 27 rfl (by rfl) ?_
    simp only [aP, aN, aT, aZ, aS]
    refine fU 28 rfl (by rfl) ?_
    simp only [aP, aN, aT, aZ, aS]
    refine tU 29 (rg 30 51) rfl b1' (by rfl) ?_
    simp only [aP, aN, aT, aZ, aS]
    refine fU 30 rfl (by rfl) ?_
    simp only [aP, aN, aT, aZ, aS]
    refine fU 31 rfl (by rfl) ?_
    simp only [aP, aN, aT, aZ, aS]
    refine fU 32 rfl (by rfl) ?_
    simp only [aP, aN, aT, aZ, aS]
    refine fU 33 rfl (by rfl) ?_
    simp only [aP, aN, aT, aZ, aS]
    refine tU 34 (rg 36 51) rfl b1' (by rfl) ?_
    simp only [aP, aN, aT, aZ, aS]
    refine tU 35 (rg 36 51) rfl b1' (by rfl) ?_
    simp only [aP, aN, aT, aZ, aS]
    refine fU 36 rfl (by rfl) ?_
    simp only [aP, aN, aT, aZ, aS]
    refine fU 37 rfl (by rfl) ?_
    simp only [aP, aN, aT, aZ, aS]
    refine tU 38 (rg 39 51) rfl b1' (by rfl) ?_
    simp only [aP, aN, aT, aZ, aS]
    refine fU 39 rfl (by rfl) ?_
    simp only [aP, aN, aT, aZ, aS]
    refine fU 40 rfl (by rfl) ?_
    simp only [aP, aN, aT, aZ, aS]
    refine fU 41 rfl (by rfl) ?_
    simp only [aP, aN, aT, aZ, aS]
    refine fU 42 rfl (by rfl) ?_
    simp only [aP, aN, aT, aZ, aS]
    refine tU 43 (rg 45 51) rfl b1' (by rfl) ?_
    simp only [aP, aN, aT, aZ, aS]
    refine tU 44 (rg 45 51) rfl b1' (by rfl) ?_
    simp only [aP, aN, aT, aZ, aS]
    refine fU 45 rfl (by rfl) ?_
    simp only [aP, aN, aT, aZ, aS]
    refine fU 46 rfl (by rfl) ?_
    simp only [aP, aN, aT, aZ, aS]
    refine tU 47 (rg 48 51) rfl b1' (by rfl) ?_
    simp only [aP, aN, aT, aZ, aS]
    refine fU 48 rfl (by rfl) ?_
    simp only [aP, aN, aT, aZ, aS]
    refine fU 49 rfl (by rfl) ?_
    simp only [aP, aN, aT, aZ, aS]
    refine fU 50 rfl (by rfl) ?_
    simp only [aP, aN, aT, aZ, aS]
    refine fV 51 (v := ?v26Hx51) rfl (by rfl) ?y26Hx51 ?_
    case y26Hx51 => intro w; go_simp; with_reducible rfl
    simp only [aP, aN, aT, aZ, aS]
    refine wpAnyK_done (by kernel_rfl) ?_ _
    go_wp2_with fail
    go_ret
    exact AnsB.mk (by simp) ((HX.out.trans HE1.out).drew)
   ·have hge' : decide ((T.kids.length : Int) ≤ (i : Int)) = false := by simp; omega
    have hit : (i : Int) < T.kids.length := by omega
    have hit' : i < T.kids.length := by omega
    have hkt : T.kids[i]? = some T.kids[i] := List.getElem?_eq_getElem hit'
    have hkm : T.kids[i] ∈ T.kids := List.getElem_mem hit'
    obtain ⟨tb, tx, yA, yc, yA', yc', hB, htb, hty, g0, g1, g2⟩ := HTK.out i _ hkt
    have hkg := HGK.out _ hkm
    generalize T.kids[i] = kt at hkt hkm hty g0 g1 g2 hkg
    subst hB
    have hx1 : Ext w W1 := HX.out.trans HE1.out
    have hS : ∀ wz, Ext W1 wz → wz.cell? ⟨w.heap.size, 0, none⟩ = some (.int .i64 T.kind) ∧ wz.cell? ⟨w.heap.size, 1, none⟩ = some (.slice (some ⟨tb, tx, none⟩) T.kids.length bc) ∧ wz.cell? ⟨tb, tx + i * 3, none⟩ = some (.int .i64 kt.kind) ∧ wz.cell? ⟨tb, tx + i * 3 + 1, none⟩ = some (.slice yA kt.kids.length yc) ∧ wz.cell? ⟨tb, tx + i * 3 + 2, none⟩ = some (.slice yA' kt.names.length yc') ∧ wz.cell? ⟨wr.heap.size, 0, none⟩ = some (.bool kv.sc.nul) ∧ wz.rangeAt wr.heap.size 0 (vcells kv.sc xA xc xA1 kv.keys.length xc1 xA2 kv.kids.length xc2) := fun wz he =>
     ⟨(((HB1.out.ext HW.out).ext HE1.out).ext he).cell 0, (((HB1.out.ext HW.out).ext HE1.out).ext he).cell 1, (hx1.trans he).cellS g0, (hx1.trans he).cellS g1, (hx1.trans he).cellS g2, (HB9.out.ext he).cell 0, Blk.range (HB9.out.ext he)⟩
    have HS := Lib.hid hS
    have hc1 : ∀ wz, Ext W1 wz → _ := fun wz he => Hp.out m m2 wz _ kt _ kv (TyAt.onx (Onx.of_ext (hx1.trans he) _) _ _ _ hty) (VlAt.onx (Onx.of_ext (HE1.out.trans he) _) _ _ _ HK.out) hkg
    have Hcall1 := Lib.hid hc1
    have hc2 : ∀ wz, Ext W1 wz → _ := fun wz he => bare_any 0 (fun _ => False) m2 _ kv wz (VlAt.onx (Onx.of_ext (HE1.out.trans he) _) _ _ _ HK.out)
    have Hcall2 := Lib.hid hc2
    have Hkt := Lib.hid hkt
    have hstart : Ext W1 W1.drew := (Ext.refl W1).drew
    have Hst := Lib.hid hstart
    have Hx1 := Lib.hid hx1
    clear hS hc1 hc2 hkt hkm hkg hty g0 g1 g2 hstart hx1
    go_upto_region 26 with fail
    cases hnul : kv.sc.nul with
    |false =>
     rw [hnul] at HS
     refine wp_region_K (fun w' => w'.cell? ⟨w.heap.size, 0, none⟩ = some (.int .i64 T.kind) ∧ w'.cell? ⟨w.heap.size, 1, none⟩ = some (.slice (some ⟨tb, tx, none⟩) T.kids.length bc) ∧ w'.cell? ⟨tb, tx + i * 3, none⟩ = some (.int .i64 kt.kind) ∧ w'.cell? ⟨tb, tx + i * 3 + 1, none⟩ = some (.slice yA kt.kids.length yc) ∧ w'.cell? ⟨tb, tx + i * 3 + 2, none⟩ = some (.slice yA' kt.names.length yc') ∧ w'.cell? ⟨wr.heap.size, 0, none⟩ = some (.bool false) ∧ w'.rangeAt wr.heap.size 0 (vcells kv.sc xA xc xA1 kv.keys.length xc1 xA2 kv.kids.length xc2)) (ix [2, 7, 11, 12, 14, 15, 22, 24, 29, 34, 35, 38, 43, 44, 47]) 52 [false, false, false, false, false, false, false, false, false, false, false, false, false, false, false, false, false, false, false, false, false, false, false, false, false, false, false, false, false, false, false, false, false, false, false, false, false, false, false, false, false, false, false, false, false, false, false, false, false, false, false, false] (by kernel_rfl) rfl rfl ?_
     refine fV 0 (v := ?v26Bx0) rfl (by rfl) ?y26Bx0 ?_
     case y26Bx0 => intro w; go_simp; with_reducible rfl
     simp only [aP, aN, aT, aZ, aS]
     refine fV 1 (v := ?v26Bx1) rfl (by rfl) ?y26Bx1 ?_
     case y26Bx1 => intro w; go_simp; with_reducible rfl
     simp only [aP, aN, aT, aZ, aS]
     refine tV 2 (rg 3 51) (v := ?v26Bx2) rfl (HS.out _ Hst.out) (by rfl) ?y26Bx2 ?_
     case y26Bx2 => rintro w ⟨s0, s1, s2, s3, s4, s5, s6⟩; go_simp; with_reducible rfl
     simp only [aP, aN, aT, aZ, aS]
     refine fV 3 (v := ?v26Bx3) rfl (by rfl) ?y26Bx3 ?_
     case y26Bx3 => intro w; go_simp; with_reducible rfl
     simp only [aP, aN, aT, aZ, aS]
     refine fV 4 (v := ?v26Bx4) rfl (by rfl) ?y26Bx4 ?_
     case y26Bx4 => intro w; go_simp; with_reducible rfl
     simp only [aP, aN, aT, aZ, aS]
     refine fV 5 (v := ?v26Bx5) rfl (by rfl) ?y26Bx5 ?_
     case y26Bx5 => intro w; go_simp; with_reducible rfl
     simp only [aP, aN, aT, aZ, aS]
     refine fV 6 (v := ?v26Bx6) rfl (by rfl) ?y26Bx6 ?_
     case y26Bx6 => intro w; go_simp; with_reducible rfl
     simp only [aP, aN, aT, aZ, aS]
     refine tV 7 (rg 8 51) (v := ?v26Bx7) rfl (HS.out _ Hst.out) (by rfl) ?y26Bx7 ?_
     case y26Bx7 => rintro w ⟨s0, s1, s2, s3, s4, s5, s6⟩; go_simp; with_reducible rfl
     simp only [aP, aN, aT, aZ, aS]
     refine fV 8 (v := ?v26Bx8) rfl (by rfl) ?y26Bx8 ?_
     case y26Bx8 => intro w; go_simp; with_reducible rfl
     simp only [aP, aN, aT, aZ, aS]
     refine fV 9 (v := ?v26Bx9) rfl (by rfl) ?y26Bx9 ?_
     case y26Bx9 => intro w; go_simp; with_reducible rfl
     simp only [aP, aN, aT, aZ, aS]
     refine fV 10 (v := ?v26Bx10) rfl (by rfl) ?y26Bx10 ?_
     case y26Bx10 => intro w; go_simp; with_reducible rfl
     simp only [aP, aN, aT, aZ, aS]
     refine tV 11 (ix [13, 14, 16, 17, 18, 19, 20, 21, 22, 23, 24, 25, 26, 27, 28, 29, 30, 31, 32, 33, 34, 35, 36, 37, 38, 39, 40, 41, 42, 43, 44, 45, 46, 47, 48, 49, 50, 51]) (v := ?v26Bx11) rfl (HS.out _ Hst.out) (by rfl) ?y26Bx11 ?_
     case y26Bx11 => rintro w ⟨s0, s1, s2, s3, s4, s5, s6⟩; go_simp; with_reducible rfl
     simp only [aP, aN, aT, aZ, aS]
     refine tV 12 (ix [13, 14, 16, 17, 18, 19, 20, 21, 22, 23, 24, 25, 26, 27, 28, 29, 30, 31, 32, 33, 34, 35, 36, 37, 38, 39, 40, 41, 42, 43, 44, 45, 46, 47, 48, 49, 50, 51]) (v := ?v26Bx12) rfl (HS.out _ Hst.out) (by rfl) ?y26Bx12 ?_
     case y26Bx12 => rintro w ⟨s0, s1, s2, s3, s4, s5, s6⟩; go_simp; with_reducible rfl
     simp only [aP, aN, aT, aZ, aS]
     refine fV 13 (v := ?v26Bx13) rfl (by rfl) ?y26Bx13 ?_
     case y26Bx13 => intro w; go_simp; with_reducible rfl
     simp only [aP, aN, aT, aZ, aS]
     refine tV 14 (rg 16 51) (v := ?v26Bx14) rfl (HS.out _ Hst.out) (by rfl) ?y26Bx14 ?_
     case y26Bx14 => rintro w ⟨s0, s1, s2, s3, s4, s5, s6⟩; go_simp; with_reducible rfl
     simp only [aP, aN, aT, aZ, aS]
     refine tG 15 (rg 16 51) rfl (HS.out _ Hst.out) (yieldsIf_load_mid (by rfl) 39 _ rfl wr.heap.size 0 (by rfl) (vcells kv.sc xA xc xA1 kv.keys.length xc1 xA2 kv.kids.length xc2) _ (fun w' h => h.2.2.2.2.2.2) Tryz.underlying39 rfl hi39) ?_
     simp only [aP, aN, aT, aZ, aS]
     refine wpAnyK_oneg 16 (by kernel_rfl) rfl (by rfl) (fun K' hK => ?_)
     go_simp
     refine (Hcall1.out _ Hst.out).mono ?_
     rintro e wq ⟨bq, rfl, hgq, heq⟩
     have Hgq := Lib.hid hgq
     have hw2 : Ext W1 wq := Hst.out.trans heq
     have Hw2 := Lib.hid hw2
     clear hgq heq hw2
     refine hK.out _ _ (fun h => absurd h (by decide)) ?_
     clear hK K'
     simp only [aP, aN, aT, aZ, aS]
     cases bq with
     |false =>
      refine fV 17 (v := ?v26B0x17) rfl (by rfl) ?y26B0x17 ?_
      case y26B0x17 => intro w; go_simp; with_reducible rfl
      simp only [aP, aN, aT, aZ, aS]
      refine fV 18 (v := ?v26B0x18) rfl (by rfl) ?y26B0x18 ?_
      case y26B0x18 => intro w; go_simp; with_reducible rfl
      simp only [aP, aN, aT, aZ, aS]
      refine fV 19 (v := ?v26B0x19) rfl (by rfl) ?y26B0x19 ?_
      case y26B0x19 => intro w; go_simp; with_reducible rfl
      simp only [aP, aN, aT, aZ, aS]
      refine fV 20 (v := ?v26B0x20) rfl (by rfl) ?y26B0x20 ?_
      case y26B0x20 => intro w; go_simp; with_reducible rfl
      simp only [aP, aN, aT, aZ, aS]
      refine fU 21 rfl (by rfl) ?_
      simp only [aP, aN, aT, aZ, aS]
      refine tU 22 (rg 23 51) rfl (HS.out _ Hw2.out) (by rfl) ?_
      simp only [aP, aN, aT, aZ, aS]
      refine fU 23 rfl (by rfl) ?_
      simp only [aP, aN, aT, aZ, aS]
      refine tU 24 (rg 25 51) rfl (HS.out _ Hw2.out) (by rfl) ?_
      simp only [aP, aN, aT, aZ, aS]
      refine wpAnyK_skip 25 (by kernel_rfl) rfl (by rfl) (fun h => absurd h (by decide)) ?_
      simp only [aP, aN, aT, aZ, aS]
      refine fU 26 rfl (by rfl) ?_
      simp only [aP, aN, aT, aZ, aS]
      refine fU 27 rfl (by rfl) ?_
      simp only [aP, aN, aT, aZ, aS]
      refine fU 28 rfl (by rfl) ?_
      simp only [aP, aN, aT, aZ, aS]
      refine tU 29 (rg 30 51) rfl (HS.out _ Hw2.out) (by rfl) ?_
      simp only [aP, aN, aT, aZ, aS]
      refine fU 30 rfl (by rfl) ?_
      simp only [aP, aN, aT, aZ, aS]
      refine fU 31 rfl (by rfl) ?_
      simp only [aP, aN, aT, aZ, aS]
      refine fU 32 rfl (by rfl) ?_
      simp only [aP, aN, aT, aZ, aS]
      refine fU 33 rfl (by rfl) ?_
      simp only [aP, aN, aT, aZ, aS]
      refine tU 34 (rg 36 51) rfl (HS.out _ Hw2.out) (by rfl) ?_
      simp only [aP, aN, aT, aZ, aS]
      refine tU 35 (rg 36 51) rfl (HS.out _ Hw2.out) (by rfl) ?_
      simp only [aP, aN, aT, aZ, aS]
      refine fU 36 rfl (by rfl) ?_
      simp only [aP, aN, aT, aZ, aS]
      refine fU 37 rfl (by rfl) ?_
      simp only [aP, aN, aT, aZ, aS]
      refine tU 38 (rg 39 51) rfl (HS.out _ Hw2.out) (by rfl) ?_
      simp only [aP, aN, aT, aZ, aS]
      refine fU 39 rfl (by rfl) ?_
      simp only [aP, aN, aT, aZ, aS]
      refine fU 40 rfl (by rfl) ?_
      simp only [aP, aN, aT, aZ, aS]
      refine fU 41 rfl (by rfl) ?_
      simp only [aP, aN, aT, aZ, aS]
      refine fU 42 rfl (by rfl) ?_
      simp only [aP, aN, aT, aZ, aS]
      refine tU 43 (rg 45 51) rfl (HS.out _ Hw2.out) (by rfl) ?_
      simp only [aP, aN, aT, aZ, aS]
      refine tU 44 (rg 45 51) rfl (HS.out _ Hw2.out) (by rfl) ?_
      simp only [aP, aN, aT, aZ, aS]
      refine fU 45 rfl (by rfl) ?_
      simp only [aP, aN, aT, aZ, aS]
      refine fU 46 rfl (by rfl) ?_
      simp only [aP, aN, aT, aZ, aS]
      refine tU 47 (rg 48 51) rfl (HS.out _ Hw2.out) (by rfl) ?_
      simp only [aP, aN, aT, aZ, aS]
      refine fU 48 rfl (by rfl) ?_
      simp only [aP, aN, aT, aZ, aS]
      refine fU 49 rfl (by rfl) ?_
      simp only [aP, aN, aT, aZ, aS]
      refine fU 50 rfl (by rfl) ?_
      simp only [aP, aN, aT, aZ, aS]
      refine fV 51 (v := ?v26B0x51) rfl (by rfl) ?y26B0x51 ?_
      case y26B0x51 => intro w; go_simp; with_reducible rfl
      simp only [aP, aN, aT, aZ, aS]
      refine wpAnyK_done (by kernel_rfl) ?_ _
      go_wp2_with fail
      go_ret
      exact AnsB.mk (by simp) (Hx1.out.trans Hw2.out)
     |true =>
      refine fV 17 (v := ?v26B1x17) rfl (by rfl) ?y26B1x17 ?_
      case y26B1x17 => intro w; go_simp; with_reducible rfl
      simp only [aP, aN, aT, aZ, aS]
      refine fV 18 (v := ?v26B1x18) rfl (by rfl) ?y26B1x18 ?_
      case y26B1x18 => intro w; go_simp; with_reducible rfl
      simp only [aP, aN, aT, aZ, aS]
      refine fV 19 (v := ?v26B1x19) rfl (by rfl) ?y26B1x19 ?_
      case y26B1x19 => intro w; go_simp; with_reducible rfl
      simp only [aP, aN, aT, aZ, aS]
      refine fV 20 (v := ?v26B1x20) rfl (by rfl) ?y26B1x20 ?_
      case y26B1x20 => intro w; go_simp; with_reducible rfl
      simp only [aP, aN, aT, aZ, aS]
      refine fV 21 (v := ?v26B1x21) rfl (by rfl) ?y26B1x21 ?_
      case y26B1x21 => intro w; go_simp; with_reducible rfl
      simp only [aP, aN, aT, aZ, aS]
      refine tV 22 (rg 23 51) (v := ?v26B1x22) rfl (HS.out _ Hw2.out) (by rfl) ?y26B1x22 ?_
      case y26B1x22 => rintro w ⟨s0, s1, s2, s3, s4, s5, s6⟩; go_simp; with_reducible rfl
      simp only [aP, aN, aT, aZ, aS]
      refine fV 23 (v := ?v26B1x23) rfl (by rfl) ?y26B1x23 ?_
      case y26B1x23 => intro w; go_simp; with_reducible rfl
      simp only [aP, aN, aT, aZ, aS]
      refine tU 24 (rg 25 51) rfl (HS.out _ Hw2.out) (by rfl) ?_
      simp only [aP, aN, aT, aZ, aS]
      refine wpAnyK_skip 25 (by kernel_rfl) rfl (by rfl) (fun h => absurd h (by decide)) ?_
      simp only [aP, aN, aT, aZ, aS]
      refine fU 26 rfl (by rfl) ?_
      simp only [aP, aN, aT, aZ, aS]
      refine fU 27 rfl (by rfl) ?_
      simp only [aP, aN, aT, aZ, aS]
      refine fU 28 rfl (by rfl) ?_
      simp only [aP, aN, aT, aZ, aS]
      refine tU 29 (rg 30 51) rfl (HS.out _ Hw2.out) (by rfl) ?_
      simp only [aP, aN, aT, aZ, aS]
      refine fU 30 rfl (by rfl) ?_
      simp only [aP, aN, aT, aZ, aS]
      refine fU 31 rfl (by rfl) ?_
      simp only [aP, aN, aT, aZ, aS]
      refine fU 32 rfl (by rfl) ?_
      simp only [aP, aN, aT, aZ, aS]
      refine fU 33 rfl (by rfl) ?_
      simp only [aP, aN, aT, aZ, aS]
      refine tU 34 (rg 36 51) rfl (HS.out _ Hw2.out) (by rfl) ?_
      simp only [aP, aN, aT, aZ, aS]
      refine tU 35 (rg 36 51) rfl (HS.out _ Hw2.out) (by rfl) ?_
      simp only [aP, aN, aT, aZ, aS]
      refine fU 36 rfl (by rfl) ?_
      simp only [aP, aN, aT, aZ, aS]
      refine fU 37 rfl (by rfl) ?_
      simp only [aP, aN, aT, aZ, aS]
      refine tU 38 (rg 39 51) rfl (HS.out _ Hw2.out) (by rfl) ?_
      simp only [aP, aN, aT, aZ, aS]
      refine fU 39 rfl (by rfl) ?_
      simp only [aP, aN, aT, aZ, aS]
      refine fU 40 rfl (by rfl) ?_
      simp only [aP, aN, aT, aZ, aS]
      refine fU 41 rfl (by rfl) ?_
      simp only [aP, aN, aT, aZ, aS]
      refine fU 42 rfl (by rfl) ?_
      simp only [aP, aN, aT, aZ, aS]
      refine tU 43 (rg 45 51) rfl (HS.out _ Hw2.out) (by rfl) ?_
      simp only [aP, aN, aT, aZ, aS]
      refine tU 44 (rg 45 51) rfl (HS.out _ Hw2.out) (by rfl) ?_
      simp only [aP, aN, aT, aZ, aS]
      refine fU 45 rfl (by rfl) ?_
      simp only [aP, aN, aT, aZ, aS]
      refine fU 46 rfl (by rfl) ?_
      simp only [aP, aN, aT, aZ, aS]
      refine tU 47 (rg 48 51) rfl (HS.out _ Hw2.out) (by rfl) ?_
      simp only [aP, aN, aT, aZ, aS]
      refine fU 48 rfl (by rfl) ?_
      simp only [aP, aN, aT, aZ, aS]
      refine fU 49 rfl (by rfl) ?_
      simp only [aP, aN, aT, aZ, aS]
      refine fV 50 (v := ?v26B1x50) rfl (by rfl) ?y26B1x50 ?_
      case y26B1x50 => intro w; go_simp; with_reducible rfl
      simp only [aP, aN, aT, aZ, aS]
      refine fV 51 (v := ?v26B1x51) rfl (by rfl) ?y26B1x51 ?_
      case y26B1x51 => intro w; go_simp; with_reducible rfl
      simp only [aP, aN, aT, aZ, aS]
      refine wpAnyK_done (by kernel_rfl) ?_ _
      go_wp2_with fail
      go_roundw
      case rel =>
       refine ⟨i + 1, by omega, rfl, HW.out.trans (HE1.out.trans Hw2.out), fun j t k hj ht hkk => ?_⟩
       by_cases hji : j = i
       ·subst hji
        have e := ht.symm.trans Hkt.out
        injection e with e
        subst e
        have e := hkk.symm.trans Hky.out
        injection e with e
        subst e
        exact .inl (Hgq.out (by simp))
       ·exact HG.out j t k (by omega) ht hkk
      case measure => simp [intOf]; omega
    |true =>
     rw [hnul] at HS
     have Hnul := Lib.hid hnul
     clear hnul
     refine wp_region_K (fun w' => w'.cell? ⟨w.heap.size, 0, none⟩ = some (.int .i64 T.kind) ∧ w'.cell? ⟨w.heap.size, 1, none⟩ = some (.slice (some ⟨tb, tx, none⟩) T.kids.length bc) ∧ w'.cell? ⟨tb, tx + i * 3, none⟩ = some (.int .i64 kt.kind) ∧ w'.cell? ⟨tb, tx + i * 3 + 1, none⟩ = some (.slice yA kt.kids.length yc) ∧ w'.cell? ⟨tb, tx + i * 3 + 2, none⟩ = some (.slice yA' kt.names.length yc') ∧ w'.cell? ⟨wr.heap.size, 0, none⟩ = some (.bool true) ∧ w'.rangeAt wr.heap.size 0 (vcells kv.sc xA xc xA1 kv.keys.length xc1 xA2 kv.kids.length xc2)) (ix [2, 7, 11, 12, 14, 15, 22, 24, 29, 34, 35, 38, 43, 44, 47]) 52 [false, false, false, false, false, false, false, false, false, false, false, false, false, false, false, false, false, false, false, false, false, false, false, false, false, false, false, false, false, false, false, false, false, false, false, false, false, false, false, false, false, false, false, false, false, false, false, false, false, false, false, false] (by kernel_rfl) rfl rfl ?_
     refine fV 0 (v := ?v26Cx0) rfl (by rfl) ?y26Cx0 ?_
     case y26Cx0 => intro w; go_simp; with_reducible rfl
     simp only [aP, aN, aT, aZ, aS]
     refine fV 1 (v := ?v26Cx1) rfl (by rfl) ?y26Cx1 ?_
     case y26Cx1 => intro w; go_simp; with_reducible rfl
     simp only [aP, aN, aT, aZ, aS]
     refine tV 2 (rg 3 51) (v := ?v26Cx2) rfl (HS.out _ Hst.out) (by rfl) ?y26Cx2 ?_
     case y26Cx2 => rintro w ⟨s0, s1, s2, s3, s4, s5, s6⟩; go_simp; with_reducible rfl
     simp only [aP, aN, aT, aZ, aS]
     refine fV 3 (v := ?v26Cx3) rfl (by rfl) ?y26Cx3 ?_
     case y26Cx3 => intro w; go_simp; with_reducible rfl
     simp only [aP, aN, aT, aZ, aS]
     refine fV 4 (v := ?v26Cx4) rfl (by rfl) ?y26Cx4 ?_
     case y26Cx4 => intro w; go_simp; with_reducible rfl
     simp only [aP, aN, aT, aZ, aS]
     refine fV 5 (v := ?v26Cx5) rfl (by rfl) ?y26Cx5 ?_
     case y26Cx5 => intro w; go_simp; with_reducible rfl
     simp only [aP, aN, aT, aZ, aS]
     refine fV 6 (v := ?v26Cx6) rfl (by rfl) ?y26Cx6 ?_
     case y26Cx6 => intro w; go_simp; with_reducible rfl
     simp only [aP, aN, aT, aZ, aS]
     refine tV 7 (rg 8 51) (v := ?v26Cx7) rfl (HS.out _ Hst.out) (by rfl) ?y26Cx7 ?_
     case y26Cx7 => rintro w ⟨s0, s1, s2, s3, s4, s5, s6⟩; go_simp; with_reducible rfl
     simp only [aP, aN, aT, aZ, aS]
     refine fV 8 (v := ?v26Cx8) rfl (by rfl) ?y26Cx8 ?_
     case y26Cx8 => intro w; go_simp; with_reducible rfl
     simp only [aP, aN, aT, aZ, aS]
     refine fV 9 (v := ?v26Cx9) rfl (by rfl) ?y26Cx9 ?_
     case y26Cx9 => intro w; go_simp; with_reducible rfl
     simp only [aP, aN, aT, aZ, aS]
     refine fU 10 rfl (by rfl) ?_
     simp only [aP, aN, aT, aZ, aS]
     refine tU 11 (ix [13, 14, 16, 17, 18, 19, 20, 21, 22, 23, 24, 25, 26, 27, 28, 29, 30, 31, 32, 33, 34, 35, 36, 37, 38, 39, 40, 41, 42, 43, 44, 45, 46, 47, 48, 49, 50, 51]) rfl (HS.out _ Hst.out) (by rfl) ?_
     simp only [aP, aN, aT, aZ, aS]
     refine tU 12 (ix [13, 14, 16, 17, 18, 19, 20, 21, 22, 23, 24, 25, 26, 27, 28, 29, 30, 31, 32, 33, 34, 35, 36, 37, 38, 39, 40, 41, 42, 43, 44, 45, 46, 47, 48, 49, 50, 51]) rfl (HS.out _ Hst.out) (by rfl) ?_
     simp only [aP, aN, aT, aZ, aS]
     refine fU 13 rfl (by rfl) ?_
     simp only [aP, aN, aT, aZ, aS]
     refine tU 14 (rg 16 51) rfl (HS.out _ Hst.out) (by rfl) ?_
     simp only [aP, aN, aT, aZ, aS]
     refine tU 15 (rg 16 51) rfl (HS.out _ Hst.out) (by rfl) ?_
     simp only [aP, aN, aT, aZ, aS]
     refine wpAnyK_skip 16 (by kernel_rfl) rfl (by rfl) (fun h => absurd h (by decide)) ?_
     simp only [aP, aN, aT, aZ, aS]
     refine fU 17 rfl (by rfl) ?_
     simp only [aP, aN, aT, aZ, aS]
     refine fV 18 (v := ?v26Cx18) rfl (by rfl) ?y26Cx18 ?_
     case y26Cx18 => intro w; go_simp; with_reducible rfl
     simp only [aP, aN, aT, aZ, aS]
     refine fV 19 (v := ?v26Cx19) rfl (by rfl) ?y26Cx19 ?_
     case y26Cx19 => intro w; go_simp; with_reducible rfl
     simp only [aP, aN, aT, aZ, aS]
     refine fV 20 (v := ?v26Cx20) rfl (by rfl) ?y26Cx20 ?_
     case y26Cx20 => intro w; go_simp; with_reducible rfl
     simp only [aP, aN, aT, aZ, aS]
     refine fV 21 (v := ?v26Cx21) rfl (by rfl) ?y26Cx21 ?_
     case y26Cx21 => intro w; go_simp; with_reducible rfl
     simp only [aP, aN, aT, aZ, aS]
     refine tV 22 (rg 23 51) (v := ?v26Cx22) rfl (HS.out _ Hst.out) (by rfl) ?y26Cx22 ?_
     case y26Cx22 => rintro w ⟨s0, s1, s2, s3, s4, s5, s6⟩; go_simp; with_reducible rfl
     simp only [aP, aN, aT, aZ, aS]
     refine fV 23 (v := ?v26Cx23) rfl (by rfl) ?y26Cx23 ?_
     case y26Cx23 => intro w; go_simp; with_reducible rfl
     simp only [aP, aN, aT, aZ, aS]
     refine tG 24 (rg 25 51) rfl (HS.out _ Hst.out) (yieldsIf_load_mid (by rfl) 39 _ rfl wr.heap.size 0 (by rfl) (vcells kv.sc xA xc xA1 kv.keys.length xc1 xA2 kv.kids.length xc2) _ (fun w' h => h.2.2.2.2.2.2) Tryz.underlying39 rfl hi39) ?_
     simp only [aP, aN, aT, aZ, aS]
     refine wpAnyK_oneg 25 (by kernel_rfl) rfl (by rfl) (fun K' hK => ?_)
     go_simp
     refine (Hcall2.out _ Hst.out).mono ?_
     rintro e wq ⟨bq, rfl, hgq, heq⟩
     have Hgq := Lib.hid hgq
     have hw2 : Ext W1 wq := Hst.out.trans heq
     have Hw2 := Lib.hid hw2
     clear hgq heq hw2
     refine hK.out _ _ (fun h => absurd h (by decide)) ?_
     clear hK K'
     simp only [aP, aN, aT, aZ, aS]
     cases bq with
     |false =>
      refine fV 26 (v := ?v26C0x26) rfl (by rfl) ?y26C0x26 ?_
      case y26C0x26 => intro w; go_simp; with_reducible rfl
      simp only [aP, aN, aT, aZ, aS]
      refine fV 27 (v := ?v26C0x27) rfl (by rfl) ?y26C0x27 ?_
      case y26C0x27 => intro w; go_simp; with_reducible rfl
      simp only [aP, aN, aT, aZ, aS]
      refine fU 28 rfl (by rfl) ?_
      simp only [aP, aN, aT, aZ, aS]
      refine tU 29 (rg 30 51) rfl (HS.out _ Hw2.out) (by rfl) ?_
      simp only [aP, aN, aT, aZ, aS]
      refine fU 30 rfl (by rfl) ?_
      simp only [aP, aN, aT, aZ, aS]
      refine fV 31 (v := ?v26C0x31) rfl (by rfl) ?y26C0x31 ?_
      case y26C0x31 => intro w; go_simp; with_reducible rfl
      simp only [aP, aN, aT, aZ, aS]
      refine fV 32 (v := ?v26C0x32) rfl (by rfl) ?y26C0x32 ?_
      case y26C0x32 => intro w; go_simp; with_reducible rfl
      simp only [aP, aN, aT, aZ, aS]
      refine fU 33 rfl (by rfl) ?_
      simp only [aP, aN, aT, aZ, aS]
      refine tU 34 (rg 36 51) rfl (HS.out _ Hw2.out) (by rfl) ?_
      simp only [aP, aN, aT, aZ, aS]
      refine tU 35 (rg 36 51) rfl (HS.out _ Hw2.out) (by rfl) ?_
      simp only [aP, aN, aT, aZ, aS]
      refine fU 36 rfl (by rfl) ?_
      simp only [aP, aN, aT, aZ, aS]
      refine fU 37 rfl (by rfl) ?_
      simp only [aP, aN, aT, aZ, aS]
      refine tU 38 (rg 39 51) rfl (HS.out _ Hw2.out) (by rfl) ?_
      simp only [aP, aN, aT, aZ, aS]
      refine fU 39 rfl (by rfl) ?_
      simp only [aP, aN, aT, aZ, aS]
      refine fV 40 (v := ?v26C0x40) rfl (by rfl) ?y26C0x40 ?_
      case y26C0x40 => intro w; go_simp; with_reducible rfl
      simp only [aP, aN, aT, aZ, aS]
      refine fV 41 (v := ?v26C0x41) rfl (by rfl) ?y26C0x41 ?_
      case y26C0x41 => intro w; go_simp; with_reducible rfl
      simp only [aP, aN, aT, aZ, aS]
      refine fU 42 rfl (by rfl) ?_
      simp only [aP, aN, aT, aZ, aS]
      refine tU 43 (rg 45 51) rfl (HS.out _ Hw2.out) (by rfl) ?_
      simp only [aP, aN, aT, aZ, aS]
      refine tU 44 (rg 45 51) rfl (HS.out _ Hw2.out) (by rfl) ?_
      simp only [aP, aN, aT, aZ, aS]
      refine fU 45 rfl (by rfl) ?_
      simp only [aP, aN, aT, aZ, aS]
      refine fU 46 rfl (by rfl) ?_
      simp only [aP, aN, aT, aZ, aS]
      refine tU 47 (rg 48 51) rfl (HS.out _ Hw2.out) (by rfl) ?_
      simp only [aP, aN, aT, aZ, aS]
      refine fU 48 rfl (by rfl) ?_
      simp only [aP, aN, aT, aZ, aS]
      refine fV 49 (v := ?v26C0x49) rfl (by rfl) ?y26C0x49 ?_
      case y26C0x49 => intro w; go_simp; with_reducible rfl
      simp only [aP, aN, aT, aZ, aS]
      refine fV 50 (v := ?v26C0x50) rfl (by rfl) ?y26C0x50 ?_
      case y26C0x50 => intro w; go_simp; with_reducible rfl
      simp only [aP, aN, aT, aZ, aS]
      refine fV 51 (v := ?v26C0x51) rfl (by rfl) ?y26C0x51 ?_
      case y26C0x51 => intro w; go_simp; with_reducible rfl
      simp only [aP, aN, aT, aZ, aS]
      refine wpAnyK_done (by kernel_rfl) ?_ _
      go_wp2_with fail
      go_ret
      exact AnsB.mk (by simp) (Hx1.out.trans Hw2.out)
     |true =>
      cases q49 : (kt.kind == 49) with
      |true =>
       refine fV 26 (v := ?v26C2x26) rfl (by rfl) ?y26C2x26 ?_
       case y26C2x26 => intro w; go_simp; with_reducible rfl
       simp only [aP, aN, aT, aZ, aS]
       refine fV 27 (v := ?v26C2x27) rfl (by rfl) ?y26C2x27 ?_
       case y26C2x27 => intro w; go_simp; with_reducible rfl
       simp only [aP, aN, aT, aZ, aS]
       refine fV 28 (v := ?v26C2x28) rfl (by rfl) ?y26C2x28 ?_
       case y26C2x28 => intro w; go_simp; with_reducible rfl
       simp only [aP, aN, aT, aZ, aS]
       refine tV 29 (rg 30 51) (v := ?v26C2x29) rfl (HS.out _ Hw2.out) (by rfl) ?y26C2x29 ?_
       case y26C2x29 => rintro w ⟨s0, s1, s2, s3, s4, s5, s6⟩; go_simp; with_reducible rfl
       simp only [aP, aN, aT, aZ, aS]
       refine fV 30 (v := ?v26C2x30) rfl (by rfl) ?y26C2x30 ?_
       case y26C2x30 => intro w; go_simp; with_reducible rfl
       simp only [aP, aN, aT, aZ, aS]
       refine fV 31 (v := ?v26C2x31) rfl (by rfl) ?y26C2x31 ?_
       case y26C2x31 => intro w; go_simp; with_reducible rfl
       simp only [aP, aN, aT, aZ, aS]
       refine fV 32 (v := ?v26C2x32) rfl (by rfl) ?y26C2x32 ?_
       case y26C2x32 => intro w; go_simp; with_reducible rfl
       simp only [aP, aN, aT, aZ, aS]
       refine fV 33 (v := ?v26C2x33) rfl (by rfl) ?y26C2x33 ?_
       case y26C2x33 => intro w; go_simp; with_reducible rfl
       simp only [aP, aN, aT, aZ, aS]
       refine tV 34 (rg 36 51) (v := ?v26C2x34) rfl (HS.out _ Hw2.out) (by rfl) ?y26C2x34 ?_
       case y26C2x34 => rintro w ⟨s0, s1, s2, s3, s4, s5, s6⟩; go_simp; with_reducible rfl
       simp only [aP, aN, aT, aZ, aS]
       refine tV 35 (rg 36 51) (v := ?v26C2x35) rfl (HS.out _ Hw2.out) (by rfl) ?y26C2x35 ?_
       case y26C2x35 => rintro w ⟨s0, s1, s2, s3, s4, s5, s6⟩; go_simp; with_reducible rfl
       simp only [aP, aN, aT, aZ, aS]
       refine fV 36 (v := ?v26C2x36) rfl (by rfl) ?y26C2x36 ?_
       case y26C2x36 => intro w; go_simp; with_reducible rfl
       simp only [aP, aN, aT, aZ, aS]
       refine fV 37 (v := ?v26C2x37) rfl (by rfl) ?y26C2x37 ?_
       case y26C2x37 => intro w; go_simp; with_reducible rfl
       simp only [aP, aN, aT, aZ, aS]
       refine tV 38 (rg 39 51) (v := ?v26C2x38) rfl (HS.out _ Hw2.out) (by rfl) ?y26C2x38 ?_
       case y26C2x38 => rintro w ⟨s0, s1, s2, s3, s4, s5, s6⟩; go_simp; with_reducible rfl
       simp only [aP, aN, aT, aZ, aS]
       refine fV 39 (v := ?v26C2x39) rfl (by rfl) ?y26C2x39 ?_
       case y26C2x39 => intro w; go_simp; with_reducible rfl
       simp only [aP, aN, aT, aZ, aS]
       refine fV 40 (v := ?v26C2x40) rfl (by rfl) ?y26C2x40 ?_
       case y26C2x40 => intro w; go_simp; with_reducible rfl
       simp only [aP, aN, aT, aZ, aS]
       refine fV 41 (v := ?v26C2x41) rfl (by rfl) ?y26C2x41 ?_
       case y26C2x41 => intro w; go_simp; with_reducible rfl
       simp only [aP, aN, aT, aZ, aS]
       refine fU 42 rfl (by rfl) ?_
       simp only [aP, aN, aT, aZ, aS]
       refine tU 43 (rg 45 51) rfl (HS.out _ Hw2.out) (by rfl) ?_
       simp only [aP, aN, aT, aZ, aS]
       refine tU 44 (rg 45 51) rfl (HS.out _ Hw2.out) (by rfl) ?_
       simp only [aP, aN, aT, aZ, aS]
       refine fU 45 rfl (by rfl) ?_
       simp only [aP, aN, aT, aZ, aS]
       refine fU 46 rfl (by rfl) ?_
       simp only [aP, aN, aT, aZ, aS]
       refine tU 47 (rg 48 51) rfl (HS.out _ Hw2.out) (by rfl) ?_
       simp only [aP, aN, aT, aZ, aS]
       refine fU 48 rfl (by rfl) ?_
       simp only [aP, aN, aT, aZ, aS]
       refine fV 49 (v := ?v26C2x49) rfl (by rfl) ?y26C2x49 ?_
       case y26C2x49 => intro w; go_simp; with_reducible rfl
       simp only [aP, aN, aT, aZ, aS]
       refine fV 50 (v := ?v26C2x50) rfl (by rfl) ?y26C2x50 ?_
       case y26C2x50 => intro w; go_simp; with_reducible rfl
       simp only [aP, aN, aT, aZ, aS]
       refine fV 51 (v := ?v26C2x51) rfl (by rfl) ?y26C2x51 ?_
       case y26C2x51 => intro w; go_simp; with_reducible rfl
       simp only [aP, aN, aT, aZ, aS]
       refine wpAnyK_done (by kernel_rfl) ?_ _
       go_wp2_with fail
       go_ret
       exact AnsB.mk (by simp) (Hx1.out.trans Hw2.out)
      |false =>
       cases q48 : (kt.kind == 48) with
       |true =>
        refine fV 26 (v := ?v26C3x26) rfl (by rfl) ?y26C3x26 ?_
        case y26C3x26 => intro w; go_simp; with_reducible rfl
        simp only [aP, aN, aT, aZ, aS]
        refine fV 27 (v := ?v26C3x27) rfl (by rfl) ?y26C3x27 ?_
        case y26C3x27 => intro w; go_simp; with_reducible rfl
        simp only [aP, aN, aT, aZ, aS]
        refine fV 28 (v := ?v26C3x28) rfl (by rfl) ?y26C3x28 ?_
        case y26C3x28 => intro w; go_simp; with_reducible rfl
        simp only [aP, aN, aT, aZ, aS]
        refine tV 29 (rg 30 51) (v := ?v26C3x29) rfl (HS.out _ Hw2.out) (by rfl) ?y26C3x29 ?_
        case y26C3x29 => rintro w ⟨s0, s1, s2, s3, s4, s5, s6⟩; go_simp; with_reducible rfl
        simp only [aP, aN, aT, aZ, aS]
        refine fV 30 (v := ?v26C3x30) rfl (by rfl) ?y26C3x30 ?_
        case y26C3x30 => intro w; go_simp; with_reducible rfl
        simp only [aP, aN, aT, aZ, aS]
        refine fV 31 (v := ?v26C3x31) rfl (by rfl) ?y26C3x31 ?_
        case y26C3x31 => intro w; go_simp; with_reducible rfl
        simp only [aP, aN, aT, aZ, aS]
        refine fV 32 (v := ?v26C3x32) rfl (by rfl) ?y26C3x32 ?_
        case y26C3x32 => intro w; go_simp; with_reducible rfl
        simp only [aP, aN, aT, aZ, aS]
        refine fV 33 (v := ?v26C3x33) rfl (by rfl) ?y26C3x33 ?_
        case y26C3x33 => intro w; go_simp; with_reducible rfl
        simp only [aP, aN, aT, aZ, aS]
        refine tV 34 (rg 36 51) (v := ?v26C3x34) rfl (HS.out _ Hw2.out) (by rfl) ?y26C3x34 ?_
        case y26C3x34 => rintro w ⟨s0, s1, s2, s3, s4, s5, s6⟩; go_simp; with_reducible rfl
        simp only [aP, aN, aT, aZ, aS]
        refine tV 35 (rg 36 51) (v := ?v26C3x35) rfl (HS.out _ Hw2.out) (by rfl) ?y26C3x35 ?_
        case y26C3x35 => rintro w ⟨s0, s1, s2, s3, s4, s5, s6⟩; go_simp; with_reducible rfl
        simp only [aP, aN, aT, aZ, aS]
        refine fV 36 (v := ?v26C3x36) rfl (by rfl) ?y26C3x36 ?_
        case y26C3x36 => intro w; go_simp; with_reducible rfl
        simp only [aP, aN, aT, aZ, aS]
        refine fV 37 (v := ?v26C3x37) rfl (by rfl) ?y26C3x37 ?_
        case y26C3x37 => intro w; go_simp; with_reducible rfl
        simp only [aP, aN, aT, aZ, aS]
        refine tV 38 (rg 39 51) (v := ?v26C3x38) rfl (HS.out _ Hw2.out) (by rfl) ?y26C3x38 ?_
        case y26C3x38 => rintro w ⟨s0, s1, s2, s3, s4, s5, s6⟩; go_simp; with_reducible rfl
        simp only [aP, aN, aT, aZ, aS]
        refine fV 39 (v := ?v26C3x39) rfl (by rfl) ?y26C3x39 ?_
        case y26C3x39 => intro w; go_simp; with_reducible rfl
        simp only [aP, aN, aT, aZ, aS]
        refine fV 40 (v := ?v26C3x40) rfl (by rfl) ?y26C3x40 ?_
        case y26C3x40 => intro w; go_simp; with_reducible rfl
        simp only [aP, aN, aT, aZ, aS]
        refine fV 41 (v := ?v26C3x41) rfl (by rfl) ?y26C3x41 ?_
        case y26C3x41 => intro w; go_simp; with_reducible rfl
        simp only [aP, aN, aT, aZ, aS]
        refine fV 42 (v := ?v26C3x42) rfl (by rfl) ?y26C3x42 ?_
        case y26C3x42 => intro w; go_simp; with_reducible rfl
        simp only [aP, aN, aT, aZ, aS]
        refine tV 43 (rg 45 51) (v := ?v26C3x43) rfl (HS.out _ Hw2.out) (by rfl) ?y26C3x43 ?_
        case y26C3x43 => rintro w ⟨s0, s1, s2, s3, s4, s5, s6⟩; go_simp; with_reducible rfl
        simp only [aP, aN, aT, aZ, aS]
        refine tV 44 (rg 45 51) (v := ?v26C3x44) rfl (HS.out _ Hw2.out) (by rfl) ?y26C3x44 ?_
        case y26C3x44 => rintro w ⟨s0, s1, s2, s3, s4, s5, s6⟩; go_simp; with_reducible rfl
        simp only [aP, aN, aT, aZ, aS]
        refine fV 45 (v := ?v26C3x45) rfl (by rfl) ?y26C3x45 ?_
        case y26C3x45 => intro w; go_simp; with_reducible rfl
        simp only [aP, aN, aT, aZ, aS]
        refine fV 46 (v := ?v26C3x46) rfl (by rfl) ?y26C3x46 ?_
        case y26C3x46 => intro w; go_simp; with_reducible rfl
        simp only [aP, aN, aT, aZ, aS]
        refine tV 47 (rg 48 51) (v := ?v26C3x47) rfl (HS.out _ Hw2.out) (by rfl) ?y26C3x47 ?_
        case y26C3x47 => rintro w ⟨s0, s1, s2, s3, s4, s5, s6⟩; go_simp; with_reducible rfl
        simp only [aP, aN, aT, aZ, aS]
        refine fV 48 (v := ?v26C3x48) rfl (by rfl) ?y26C3x48 ?_
        case y26C3x48 => intro w; go_simp; with_reducible rfl
        simp only [aP, aN, aT, aZ, aS]
        refine fV 49 (v := ?v26C3x49) rfl (by rfl) ?y26C3x49 ?_
        case y26C3x49 => intro w; go_simp; with_reducible rfl
        simp only [aP, aN, aT, aZ, aS]
        refine fV 50 (v := ?v26C3x50) rfl (by rfl) ?y26C3x50 ?_
        case y26C3x50 => intro w; go_simp; with_reducible rfl
        simp only [aP, aN, aT, aZ, aS]
        refine fV 51 (v := ?v26C3x51) rfl (by rfl) ?y26C3x51 ?_
        case y26C3x51 => intro w; go_simp; with_reducible rfl
        simp only [aP, aN, aT, aZ, aS]
        refine wpAnyK_done (by kernel_rfl) ?_ _
        go_wp2_with fail
        go_ret
        exact AnsB.mk (by simp) (Hx1.out.trans Hw2.out)
       |false =>
        refine fV 26 (v := ?v26C4x26) rfl (by rfl) ?y26C4x26 ?_
        case y26C4x26 => intro w; go_simp; with_reducible rfl
        simp only [aP, aN, aT, aZ, aS]
        refine fV 27 (v := ?v26C4x27) rfl (by rfl) ?y26C4x27 ?_
        case y26C4x27 => intro w; go_simp; with_reducible rfl
        simp only [aP, aN, aT, aZ, aS]
        refine fV 28 (v := ?v26C4x28) rfl (by rfl) ?y26C4x28 ?_
        case y26C4x28 => intro w; go_simp; with_reducible rfl
        simp only [aP, aN, aT, aZ, aS]
        refine tV 29 (rg 30 51) (v := ?v26C4x29) rfl (HS.out _ Hw2.out) (by rfl) ?y26C4x29 ?_
        case y26C4x29 => rintro w ⟨s0, s1, s2, s3, s4, s5, s6⟩; go_simp; with_reducible rfl
        simp only [aP, aN, aT, aZ, aS]
        refine fV 30 (v := ?v26C4x30) rfl (by rfl) ?y26C4x30 ?_
        case y26C4x30 => intro w; go_simp; with_reducible rfl
        simp only [aP, aN, aT, aZ, aS]
        refine fV 31 (v := ?v26C4x31) rfl (by rfl) ?y26C4x31 ?_
        case y26C4x31 => intro w; go_simp; with_reducible rfl
        simp only [aP, aN, aT, aZ, aS]
        refine fV 32 (v := ?v26C4x32) rfl (by rfl) ?y26C4x32 ?_
        case y26C4x32 => intro w; go_simp; with_reducible rfl
        simp only [aP, aN, aT, aZ, aS]
        refine fV 33 (v := ?v26C4x33) rfl (by rfl) ?y26C4x33 ?_
        case y26C4x33 => intro w; go_simp; with_reducible rfl
        simp only [aP, aN, aT, aZ, aS]
        refine tV 34 (rg 36 51) (v := ?v26C4x34) rfl (HS.out _ Hw2.out) (by rfl) ?y26C4x34 ?_
        case y26C4x34 => rintro w ⟨s0, s1, s2, s3, s4, s5, s6⟩; go_simp; with_reducible rfl
        simp only [aP, aN, aT, aZ, aS]
        refine tV 35 (rg 36 51) (v := ?v26C4x35) rfl (HS.out _ Hw2.out) (by rfl) ?y26C4x35 ?_
        case y26C4x35 => rintro w ⟨s0, s1, s2, s3, s4, s5, s6⟩; go_simp; with_reducible rfl
        simp only [aP, aN, aT, aZ, aS]
        refine fV 36 (v := ?v26C4x36) rfl (by rfl) ?y26C4x36 ?_
        case y26C4x36 => intro w; go_simp; with_reducible rfl
        simp only [aP, aN, aT, aZ, aS]
        refine fV 37 (v := ?v26C4x37) rfl (by rfl) ?y26C4x37 ?_
        case y26C4x37 => intro w; go_simp; with_reducible rfl
        simp only [aP, aN, aT, aZ, aS]
        refine tV 38 (rg 39 51) (v := ?v26C4x38) rfl (HS.out _ Hw2.out) (by rfl) ?y26C4x38 ?_
        case y26C4x38 => rintro w ⟨s0, s1, s2, s3, s4, s5, s6⟩; go_simp; with_reducible rfl
        simp only [aP, aN, aT, aZ, aS]
        refine fV 39 (v := ?v26C4x39) rfl (by rfl) ?y26C4x39 ?_
        case y26C4x39 => intro w; go_simp; with_reducible rfl
        simp only [aP, aN, aT, aZ, aS]
        refine fV 40 (v := ?v26C4x40) rfl (by rfl) ?y26C4x40 ?_
        case y26C4x40 => intro w; go_simp; with_reducible rfl
        simp only [aP, aN, aT, aZ, aS]
        refine fV 41 (v := ?v26C4x41) rfl (by rfl) ?y26C4x41 ?_
        case y26C4x41 => intro w; go_simp; with_reducible rfl
        simp only [aP, aN, aT, aZ, aS]
        refine fV 42 (v := ?v26C4x42) rfl (by rfl) ?y26C4x42 ?_
        case y26C4x42 => intro w; go_simp; with_reducible rfl
        simp only [aP, aN, aT, aZ, aS]
        refine tV 43 (rg 45 51) (v := ?v26C4x43) rfl (HS.out _ Hw2.out) (by rfl) ?y26C4x43 ?_
        case y26C4x43 => rintro w ⟨s0, s1, s2, s3, s4, s5, s6⟩; go_simp; with_reducible rfl
        simp only [aP, aN, aT, aZ, aS]
        refine tV 44 (rg 45 51) (v := ?v26C4x44) rfl (HS.out _ Hw2.out) (by rfl) ?y26C4x44 ?_
        case y26C4x44 => rintro w ⟨s0, s1, s2, s3, s4, s5, s6⟩; go_simp; with_reducible rfl
        simp only [aP, aN, aT, aZ, aS]
        refine fV 45 (v := ?v26C4x45) rfl (by rfl) ?y26C4x45 ?_
        case y26C4x45 => intro w; go_simp; with_reducible rfl
        simp only [aP, aN, aT, aZ, aS]
        refine fV 46 (v := ?v26C4x46) rfl (by rfl) ?y26C4x46 ?_
        case y26C4x46 => intro w; go_simp; with_reducible rfl
        simp only [aP, aN, aT, aZ, aS]
        refine tV 47 (rg 48 51) (v := ?v26C4x47) rfl (HS.out _ Hw2.out) (by rfl) ?y26C4x47 ?_
        case y26C4x47 => rintro w ⟨s0, s1, s2, s3, s4, s5, s6⟩; go_simp; with_reducible rfl
        simp only [aP, aN, aT, aZ, aS]
        refine fV 48 (v := ?v26C4x48) rfl (by rfl) ?y26C4x48 ?_
        case y26C4x48 => intro w; go_simp; with_reducible rfl
        simp only [aP, aN, aT, aZ, aS]
        refine fV 49 (v := ?v26C4x49) rfl (by rfl) ?y26C4x49 ?_
        case y26C4x49 => intro w; go_simp; with_reducible rfl
        simp only [aP, aN, aT, aZ, aS]
        refine fV 50 (v := ?v26C4x50) rfl (by rfl) ?y26C4x50 ?_
        case y26C4x50 => intro w; go_simp; with_reducible rfl
        simp only [aP, aN, aT, aZ, aS]
        refine fV 51 (v := ?v26C4x51) rfl (by rfl) ?y26C4x51 ?_
        case y26C4x51 => intro w; go_simp; with_reducible rfl
        simp only [aP, aN, aT, aZ, aS]
        refine wpAnyK_done (by kernel_rfl) ?_ _
        go_wp2_with fail
        go_roundw
        case rel =>
         refine ⟨i + 1, by omega, rfl, HW.out.trans (HE1.out.trans Hw2.out), fun j t k hj ht hkk => ?_⟩
         by_cases hji : j = i
         ·subst hji
          have e := ht.symm.trans Hkt.out
          injection e with e
          subst e
          have e := hkk.symm.trans Hky.out
          injection e with e
          subst e
          have hb := (Hgq.out (by simp)).resolve_left (by omega)
          exact .inr ⟨Hk.out, Hnul.out, hb.1, hb.2⟩
         ·exact HG.out j t k (by omega) ht hkk
        case measure => simp [intOf]; omega
  ·obtain rfl : i = V.kids.length := by omega
   have hT1 := (HB1.out.ext HW.out)
   have hT2 := (HB2.out.ext HW.out)
   obtain ⟨b0, b1, b2⟩ := hT1.c3
   obtain ⟨d0, d1, d2, d3, d4, d5, d6, d7, d8, d9, d10⟩ := hT2.c11
   have hltw := hT2.lt
   clear hT1 hT2
   by_cases hk0 : V.keys.length = 0
   ·have u0 : ((V.keys.length : Int) == 0) = true := by simp [hk0]
    have Hk0 := Lib.hid hk0
    clear hk0
    go_wp2_with fail
    go_ret
    refine AnsB.mk (fun hq => ?_) HX.out
    have hq' : V.kids.length = T.kids.length := Int.ofNat_inj.1 (eq_of_beq hq)
    exact ⟨Hn.out, hlen, .inr (.inr (.inr ⟨.inr Hk.out, List.length_eq_zero_iff.1 Hk0.out, hq', fun j t k ht hkk => HG.out j t k (by have := (List.getElem?_eq_some_iff.1 hkk).1; exact this) ht hkk⟩))⟩
   ·have u0 : ((V.keys.length : Int) == 0) = false := beq_eq_false_iff_ne.2 (by omega)
    clear hk0
    go_wp2_with fail
    go_ret
    exact AnsB.mk (by simp) HX.out
end Go.Proofs.YtammjbmfiakbnaaGreatDoor
