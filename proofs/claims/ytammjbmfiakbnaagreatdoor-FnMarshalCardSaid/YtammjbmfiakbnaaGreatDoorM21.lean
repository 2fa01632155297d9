/- A part of the proof that the card of laws.FnMarshal holds. No conditions. -/
import Derived.Test.YtammjbmfiakbnaaGreatDoorM09
import Derived.BigQuiet
import Derived.Test.YtammjbmfiakbnaaGreatDoorPrt
import Derived.Test.YtammjbmfiakbnaaGreatDoorM01
import Derived.Test.YtammjbmfiakbnaaGreatDoorApa
set_option linter.unusedSimpArgs false
set_option linter.unusedVariables false
namespace Go.Proofs.YtammjbmfiakbnaaGreatDoor
open Go.RowKit
set_option maxRecDepth 100000 in
set_option maxHeartbeats 4000000 in
theorem map_kids (n : Nat) (hp : PropP n) (m m2 : Nat) (w : World) (tv : Value) (T : Ty) (vs : List Value) (V : Vl) (hT : TyAt (fun _ => False) m w tv T) (hV : VlAt (fun _ => False) m2 w vs V) (hG : Good (n + 1) T) (hn : V.sc.nul = false)
  (hk : T.kind = 33) (hlen : V.kids.length ≤ 20) :
  Calls Tryz.prog 44 #[tv, .agg vs.toArray] w (AnsB (fun b => b = true → GoodV (n + 1) T V) w) := by
 obtain ⟨B, bc, B', bc', rfl⟩ := hT.form
 cases m2 with
 |zero => exact hV.elim
 |succ m2 =>
 cases m with
 |zero => exact hT.elim
 |succ m =>
 have hl1 : T.kids.length = 2 := by
  have := hG.2
  unfold Shape at this
  omega
 have hkt : T.kids[0]? = some T.kids[0] := List.getElem?_eq_getElem (by omega)
 have hkg : Good n T.kids[0] := hG.1 _ (List.getElem_mem _)
 have hmt : T.kids[1]? = some T.kids[1] := List.getElem?_eq_getElem (by omega)
 have hmg : Good n T.kids[1] := hG.1 _ (List.getElem_mem _)
 generalize T.kids[0] = kt at hkt hkg
 generalize T.kids[1] = lt at hmt hmg
 have HT := Lib.hid (tkid_at hT hkt)
 have HU := Lib.hid (tkid_at hT hmt)
 obtain ⟨A, c, A1, c1, A2, c2, rfl, q1, q2, q3, q4, q5, q6, hs, hd, hrow1, hrow⟩ := hV
 have HR := Lib.hid hrow
 have HR1 := Lib.hid hrow1
 have Hp := Lib.hid hp
 have Hkt := Lib.hid hkt
 have Hkg := Lib.hid hkg
 have Hmt := Lib.hid hmt
 have Hmg := Lib.hid hmg
 have Hn := Lib.hid hn
 clear hT hs hG hd hrow hrow1 hp hkt hkg hmt hmg hn
 simp only [vcells]
 unfold maxLen at q2 q4 q6
 have hbc : 0 < T.kids.length := by omega
 have hbd : (1 : Int) < (T.kids.length : Int) := by omega
 clear hl1
 have t32 : (T.kind == 32) = false := by simp [hk]
 have t34 : (T.kind == 34) = false := by simp [hk]
 have t33 : (T.kind == 33) = true := by simp [hk]
 have Hk := Lib.hid hk
 clear hk
 go_enter Tryz.func44, Tryz.ntmps44
 go_wp2_with fail
 generalize hW : World.alloc (World.alloc w _) _ = wa
 have h0 : Blk wa w.heap.size 35 #[.int .i64 T.kind, .slice B T.kids.length bc, .slice B' T.names.length bc'] ∧ Blk wa (w.heap.size + 1) 39 #[.bool V.sc.nul, .int .i64 V.sc.n, .float .f64 V.sc.f, .string V.sc.text, .slice A V.sc.data.length c, .int .i64 V.sc.scale, .int .i64 V.sc.months, .int .i64 V.sc.days, .int .i64 V.sc.nanos, .slice A1 V.keys.length c1, .slice A2 V.kids.length c2] ∧ Ext w wa := by
  rw [← hW]
  exact ⟨(Blk.new w 35 _).alloc _, Blk.new' _ _ 39 _ (by simp), ((Ext.refl w).alloc _).alloc _⟩
 clear hW
 obtain ⟨hb1, hb2, hE⟩ := h0
 have HB1 := Lib.hid hb1
 have HB2 := Lib.hid hb2
 have HE := Lib.hid hE
 clear hb1 hb2 hE
 go_loopw [43] (fun v wr => ∃ i : Nat, i ≤ V.kids.length ∧ v = .int .i64 i ∧ Ext wa wr ∧ ∀ j, j < i → j < V.keys.length ∧ (∀ k, V.keys[j]? = some k → GoodV n kt k) ∧ ∀ k, V.kids[j]? = some k → GoodV n lt k) (fun v _ => V.kids.length - (intOf v).toNat)
 case atStart => exact ⟨0, Nat.zero_le _, rfl, Ext.refl _, fun j h => by omega⟩
 case round =>
  obtain ⟨i, hi, rfl, hE, hgood⟩ := hrel
  have HW := Lib.hid hE
  have HG := Lib.hid hgood
  clear hE hgood
  have hEx : Ext w wr := HE.out.trans HW.out
  have HX := Lib.hid hEx
  clear hEx
  have hbB2 := HB2.out.ext HW.out
  obtain ⟨d0, d1, d2, d3, d4, d5, d6, d7, d8, d9, d10⟩ := hbB2.c11
  have hltw := hbB2.lt
  clear hbB2
  by_cases hlti : (i : Int) < V.kids.length
  ·have hi' : i < V.kids.length := by omega
   by_cases hge : (V.keys.length : Int) ≤ i
   ·have hge' : decide ((V.keys.length : Int) ≤ (i : Int)) = true := by simp [hge]
    go_wp2_with fail
    go_quiet (fail)
    go_wp2_with fail
    go_ret
    exact AnsB.mk (by simp) (HX.out.drewN _)
   ·have hge' : decide ((V.keys.length : Int) ≤ (i : Int)) = false := by simp; omega
    have hj' : i < V.keys.length := by omega
    clear d0 d1 d2 d3 d4 d5 d6 d7 d8 d9 d10
    have hkx : V.keys[i]? = some V.keys[i] := List.getElem?_eq_getElem hj'
    obtain ⟨b1, o1, xA, xc, xA1, xc1, xA2, xc2, hA, hb1, hx1, hr1⟩ := kid_at HR1.out hkx
    generalize V.keys[i] = kx at hkx hx1 hr1
    subst hA
    have hky : V.kids[i]? = some V.kids[i] := List.getElem?_eq_getElem hi'
    obtain ⟨b2, o2, zA, zc, zA1, zc1, zA2, zc2, hA, hb2, hx2, hr2⟩ := kid_at HR.out hky
    generalize V.kids[i] = ky at hky hx2 hr2
    subst hA
    obtain ⟨tb, tx, yA, yc, yA', yc', hB, htb, hty, g0, g1, g2⟩ := HT.out
    subst hB
    rw [Nat.zero_mul, Nat.add_zero] at g0 g1 g2
    obtain ⟨tb', tx', uA, uc, uA', uc', hB, htb', htu, f0, f1, f2⟩ := HU.out
    injection hB with hB
    injection hB with hB1 hB2
    subst hB1
    subst hB2
    rw [Nat.one_mul] at f0 f1 f2
    have hS : ∀ wz, Ext wr wz → wz.cell? ⟨w.heap.size, 1, none⟩ = some (.slice (some ⟨tb, tx, none⟩) T.kids.length bc) ∧ wz.cell? ⟨w.heap.size + 1, 9, none⟩ = some (.slice (some ⟨b1, o1, none⟩) V.keys.length c1) ∧ wz.cell? ⟨w.heap.size + 1, 10, none⟩ = some (.slice (some ⟨b2, o2, none⟩) V.kids.length c2) ∧ wz.cell? ⟨tb, tx, none⟩ = some (.int .i64 kt.kind) ∧ wz.cell? ⟨tb, tx + 1, none⟩ = some (.slice yA kt.kids.length yc) ∧ wz.cell? ⟨tb, tx + 2, none⟩ = some (.slice yA' kt.names.length yc') ∧ wz.cell? ⟨tb, tx + 3, none⟩ = some (.int .i64 lt.kind) ∧ wz.cell? ⟨tb, tx + 4, none⟩ = some (.slice uA lt.kids.length uc) ∧ wz.cell? ⟨tb, tx + 5, none⟩ = some (.slice uA' lt.names.length uc') ∧ wz.rangeAt b1 (o1 + i * 11) (vcells kx.sc xA xc xA1 kx.keys.length xc1 xA2 kx.kids.length xc2) ∧ wz.rangeAt b2 (o2 + i * 11) (vcells ky.sc zA zc zA1 ky.keys.length zc1 zA2 ky.kids.length zc2) := fun wz he =>
     ⟨((HB1.out.ext HW.out).ext he).cell 1, ((HB2.out.ext HW.out).ext he).cell 9, ((HB2.out.ext HW.out).ext he).cell 10, (HX.out.trans he).cellS g0, (HX.out.trans he).cellS g1, (HX.out.trans he).cellS g2, (HX.out.trans he).cellS f0, (HX.out.trans he).cellS f1, (HX.out.trans he).cellS f2,
      fun j u hu => (HX.out.trans he).cellS (hr1 j u hu), fun j u hu => (HX.out.trans he).cellS (hr2 j u hu)⟩
    have HS := Lib.hid hS
    have hc1 := Hp.out m m2 wr.drew _ kt _ kx (TyAt.onx (Onx.of_ext HX.out.drew _) _ _ _ hty) (VlAt.onx (Onx.of_ext HX.out.drew _) _ _ _ hx1) Hkg.out
    have Hcall1 := Lib.hid hc1
    have hc2 : ∀ wz, Ext wr wz → _ := fun wz he => Hp.out m m2 wz _ lt _ ky (TyAt.onx (Onx.of_ext (HX.out.trans he) _) _ _ _ htu) (VlAt.onx (Onx.of_ext (HX.out.trans he) _) _ _ _ hx2) Hmg.out
    have Hcall2 := Lib.hid hc2
    have Hkx := Lib.hid hkx
    have Hky := Lib.hid hky
    have hstart : Ext wr wr.drew := (Ext.refl wr).drew
    have Hst := Lib.hid hstart
    clear hS hc1 hc2 hkx hky hx1 hx2 hr1 hr2 hty htu g0 g1 g2 f0 f1 f2 hstart
    go_upto_region 17 with fail
    refine wp_region_K (fun w' => w'.cell? ⟨w.heap.size, 1, none⟩ = some (.slice (some ⟨tb, tx, none⟩) T.kids.length bc) ∧ w'.cell? ⟨w.heap.size + 1, 9, none⟩ = some (.slice (some ⟨b1, o1, none⟩) V.keys.length c1) ∧ w'.cell? ⟨w.heap.size + 1, 10, none⟩ = some (.slice (some ⟨b2, o2, none⟩) V.kids.length c2) ∧ w'.cell? ⟨tb, tx, none⟩ = some (.int .i64 kt.kind) ∧ w'.cell? ⟨tb, tx + 1, none⟩ = some (.slice yA kt.kids.length yc) ∧ w'.cell? ⟨tb, tx + 2, none⟩ = some (.slice yA' kt.names.length yc') ∧ w'.cell? ⟨tb, tx + 3, none⟩ = some (.int .i64 lt.kind) ∧ w'.cell? ⟨tb, tx + 4, none⟩ = some (.slice uA lt.kids.length uc) ∧ w'.cell? ⟨tb, tx + 5, none⟩ = some (.slice uA' lt.names.length uc') ∧ w'.rangeAt b1 (o1 + i * 11) (vcells kx.sc xA xc xA1 kx.keys.length xc1 xA2 kx.kids.length xc2) ∧ w'.rangeAt b2 (o2 + i * 11) (vcells ky.sc zA zc zA1 ky.keys.length zc1 zA2 ky.kids.length zc2)) (ix [2, 7, 9, 10, 11, 12, 13, 14, 20, 22, 23, 24, 25, 26, 27]) 31 [false, false, false, false, false, false, false, false, false, false, false, false, false, false, false, false, false, false, false, false, false, false, false, false, false, false, false, false, false, false, false] (by kernel_rfl) rfl rfl ?_
    refine fV 0 (v := ?v17x0) rfl (by rfl) ?y17x0 ?_
    case y17x0 => intro w; go_simp; with_reducible rfl
    simp only [aP, aN, aT, aZ, aS]
    refine fV 1 (v := ?v17x1) rfl (by rfl) ?y17x1 ?_
    case y17x1 => intro w; go_simp; with_reducible rfl
    simp only [aP, aN, aT, aZ, aS]
    refine tV 2 (rg 3 30) (v := ?v17x2) rfl (HS.out _ Hst.out) (by rfl) ?y17x2 ?_
    case y17x2 => rintro w ⟨s0, s1, s2, s3, s4, s5, s6, s7, s8, s9, s10⟩; go_simp; with_reducible rfl
    simp only [aP, aN, aT, aZ, aS]
    refine fV 3 (v := ?v17x3) rfl (by rfl) ?y17x3 ?_
    case y17x3 => intro w; go_simp; with_reducible rfl
    simp only [aP, aN, aT, aZ, aS]
    refine fV 4 (v := ?v17x4) rfl (by rfl) ?y17x4 ?_
    case y17x4 => intro w; go_simp; with_reducible rfl
    simp only [aP, aN, aT, aZ, aS]
    refine fV 5 (v := ?v17x5) rfl (by rfl) ?y17x5 ?_
    case y17x5 => intro w; go_simp; with_reducible rfl
    simp only [aP, aN, aT, aZ, aS]
    refine fV 6 (v := ?v17x6) rfl (by rfl) ?y17x6 ?_
    case y17x6 => intro w; go_simp; with_reducible rfl
    simp only [aP, aN, aT, aZ, aS]
    refine tV 7 (ix [8, 9, 15, 16, 17, 18, 19, 20, 21, 22, 23, 24, 25, 26, 27, 28, 29, 30]) (v := ?v17x7) rfl (HS.out _ Hst.out) (by rfl) ?y17x7 ?_
    case y17x7 => rintro w ⟨s0, s1, s2, s3, s4, s5, s6, s7, s8, s9, s10⟩; go_simp; with_reducible rfl
    simp only [aP, aN, aT, aZ, aS]
    refine fV 8 (v := ?v17x8) rfl (by rfl) ?y17x8 ?_
    case y17x8 => intro w; go_simp; with_reducible rfl
    simp only [aP, aN, aT, aZ, aS]
    refine tV 9 (rg 15 30) (v := ?v17x9) rfl (HS.out _ Hst.out) (by rfl) ?y17x9 ?_
    case y17x9 => rintro w ⟨s0, s1, s2, s3, s4, s5, s6, s7, s8, s9, s10⟩; go_simp; with_reducible rfl
    simp only [aP, aN, aT, aZ, aS]
    refine tV 10 (ix [11, 13, 14, 15, 16, 17, 18, 19, 20, 21, 22, 23, 24, 25, 26, 27, 28, 29, 30]) (v := ?v17x10) rfl (HS.out _ Hst.out) (by rfl) ?y17x10 ?_
    case y17x10 => rintro w ⟨s0, s1, s2, s3, s4, s5, s6, s7, s8, s9, s10⟩; go_simp; with_reducible rfl
    simp only [aP, aN, aT, aZ, aS]
    refine tV 11 (rg 13 30) (v := ?v17x11) rfl (HS.out _ Hst.out) (by rfl) ?y17x11 ?_
    case y17x11 => rintro w ⟨s0, s1, s2, s3, s4, s5, s6, s7, s8, s9, s10⟩; go_simp; with_reducible rfl
    simp only [aP, aN, aT, aZ, aS]
    refine tV 12 (rg 13 30) (v := ?v17x12) rfl (HS.out _ Hst.out) (by rfl) ?y17x12 ?_
    case y17x12 => rintro w ⟨s0, s1, s2, s3, s4, s5, s6, s7, s8, s9, s10⟩; go_simp; with_reducible rfl
    simp only [aP, aN, aT, aZ, aS]
    refine tV 13 (rg 14 30) (v := ?v17x13) rfl (HS.out _ Hst.out) (by rfl) ?y17x13 ?_
    case y17x13 => rintro w ⟨s0, s1, s2, s3, s4, s5, s6, s7, s8, s9, s10⟩; go_simp; with_reducible rfl
    simp only [aP, aN, aT, aZ, aS]
    refine tG 14 (rg 15 30) rfl (HS.out _ Hst.out) (yieldsIf_load_mid (by rfl) 39 _ rfl b1 (o1 + i * 11) (by rfl) (vcells kx.sc xA xc xA1 kx.keys.length xc1 xA2 kx.kids.length xc2) _ (fun w' h => h.2.2.2.2.2.2.2.2.2.1) Tryz.underlying39 rfl hi39) ?_
    simp only [aP, aN, aT, aZ, aS]
    refine wpAnyK_oneg 15 (by kernel_rfl) rfl (by rfl) (fun K' hK => ?_)
    go_simp
    refine Hcall1.out.mono ?_
    rintro e wq ⟨bq, rfl, hgq, heq⟩
    have Hgq := Lib.hid hgq
    have Heq := Lib.hid heq
    clear hgq heq
    refine hK.out _ _ (fun h => absurd h (by decide)) ?_
    clear hK K'
    simp only [aP, aN, aT, aZ, aS]
    have hw2 : Ext wr wq := Hst.out.trans Heq.out
    have Hw2 := Lib.hid hw2
    clear hw2
    cases bq with
    |false =>
     refine fV 16 (v := ?v17Fx16) rfl (by rfl) ?y17Fx16 ?_
     case y17Fx16 => intro w; go_simp; with_reducible rfl
     simp only [aP, aN, aT, aZ, aS]
     refine fV 17 (v := ?v17Fx17) rfl (by rfl) ?y17Fx17 ?_
     case y17Fx17 => intro w; go_simp; with_reducible rfl
     simp only [aP, aN, aT, aZ, aS]
     refine fV 18 (v := ?v17Fx18) rfl (by rfl) ?y17Fx18 ?_
     case y17Fx18 => intro w; go_simp; with_reducible rfl
     simp only [aP, aN, aT, aZ, aS]
     refine fU 19 rfl (by rfl) ?_
     simp only [aP, aN, aT, aZ, aS]
     refine tU 20 (ix [21, 22, 28, 29, 30]) rfl (HS.out _ Hw2.out) (by rfl) ?_
     simp only [aP, aN, aT, aZ, aS]
     refine fU 21 rfl (by rfl) ?_
     simp only [aP, aN, aT, aZ, aS]
     refine tU 22 (ix [28, 29, 30]) rfl (HS.out _ Hw2.out) (by rfl) ?_
     simp only [aP, aN, aT, aZ, aS]
     refine tU 23 (ix [24, 26, 27, 28, 29, 30]) rfl (HS.out _ Hw2.out) (by rfl) ?_
     simp only [aP, aN, aT, aZ, aS]
     refine tU 24 (rg 26 30) rfl (HS.out _ Hw2.out) (by rfl) ?_
     simp only [aP, aN, aT, aZ, aS]
     refine tU 25 (rg 26 30) rfl (HS.out _ Hw2.out) (by rfl) ?_
     simp only [aP, aN, aT, aZ, aS]
     refine tU 26 (rg 27 30) rfl (HS.out _ Hw2.out) (by rfl) ?_
     simp only [aP, aN, aT, aZ, aS]
     refine tU 27 (ix [28, 29, 30]) rfl (HS.out _ Hw2.out) (by rfl) ?_
     simp only [aP, aN, aT, aZ, aS]
     refine wpAnyK_skip 28 (by kernel_rfl) rfl (by rfl) (fun h => absurd h (by decide)) ?_
     simp only [aP, aN, aT, aZ, aS]
     refine fU 29 rfl (by rfl) ?_
     simp only [aP, aN, aT, aZ, aS]
     refine fV 30 (v := ?v17Fx30) rfl (by rfl) ?y17Fx30 ?_
     case y17Fx30 => intro w; go_simp; with_reducible rfl
     simp only [aP, aN, aT, aZ, aS]
     refine wpAnyK_done (by kernel_rfl) ?_ _
     go_wp2_with fail
     go_ret
     exact AnsB.mk (by simp) (HX.out.trans Hw2.out)
    |true =>
     refine fV 16 (v := ?v17Tx16) rfl (by rfl) ?y17Tx16 ?_
     case y17Tx16 => intro w; go_simp; with_reducible rfl
     simp only [aP, aN, aT, aZ, aS]
     refine fV 17 (v := ?v17Tx17) rfl (by rfl) ?y17Tx17 ?_
     case y17Tx17 => intro w; go_simp; with_reducible rfl
     simp only [aP, aN, aT, aZ, aS]
     refine fV 18 (v := ?v17Tx18) rfl (by rfl) ?y17Tx18 ?_
     case y17Tx18 => intro w; go_simp; with_reducible rfl
     simp only [aP, aN, aT, aZ, aS]
     refine fV 19 (v := ?v17Tx19) rfl (by rfl) ?y17Tx19 ?_
     case y17Tx19 => intro w; go_simp; with_reducible rfl
     simp only [aP, aN, aT, aZ, aS]
     refine tV 20 (ix [21, 22, 28, 29, 30]) (v := ?v17Tx20) rfl (HS.out _ Hw2.out) (by rfl) ?y17Tx20 ?_
     case y17Tx20 => rintro w ⟨s0, s1, s2, s3, s4, s5, s6, s7, s8, s9, s10⟩; go_simp; with_reducible rfl
     simp only [aP, aN, aT, aZ, aS]
     refine fV 21 (v := ?v17Tx21) rfl (by rfl) ?y17Tx21 ?_
     case y17Tx21 => intro w; go_simp; with_reducible rfl
     simp only [aP, aN, aT, aZ, aS]
     refine tV 22 (ix [28, 29, 30]) (v := ?v17Tx22) rfl (HS.out _ Hw2.out) (by rfl) ?y17Tx22 ?_
     case y17Tx22 => rintro w ⟨s0, s1, s2, s3, s4, s5, s6, s7, s8, s9, s10⟩; go_simp; with_reducible rfl
     simp only [aP, aN, aT, aZ, aS]
     refine tV 23 (ix [24, 26, 27, 28, 29, 30]) (v := ?v17Tx23) rfl (HS.out _ Hw2.out) (by rfl) ?y17Tx23 ?_
     case y17Tx23 => rintro w ⟨s0, s1, s2, s3, s4, s5, s6, s7, s8, s9, s10⟩; go_simp; with_reducible rfl
     simp only [aP, aN, aT, aZ, aS]
     refine tV 24 (rg 26 30) (v := ?v17Tx24) rfl (HS.out _ Hw2.out) (by rfl) ?y17Tx24 ?_
     case y17Tx24 => rintro w ⟨s0, s1, s2, s3, s4, s5, s6, s7, s8, s9, s10⟩; go_simp; with_reducible rfl
     simp only [aP, aN, aT, aZ, aS]
     refine tV 25 (rg 26 30) (v := ?v17Tx25) rfl (HS.out _ Hw2.out) (by rfl) ?y17Tx25 ?_
     case y17Tx25 => rintro w ⟨s0, s1, s2, s3, s4, s5, s6, s7, s8, s9, s10⟩; go_simp; with_reducible rfl
     simp only [aP, aN, aT, aZ, aS]
     refine tV 26 (rg 27 30) (v := ?v17Tx26) rfl (HS.out _ Hw2.out) (by rfl) ?y17Tx26 ?_
     case y17Tx26 => rintro w ⟨s0, s1, s2, s3, s4, s5, s6, s7, s8, s9, s10⟩; go_simp; with_reducible rfl
     simp only [aP, aN, aT, aZ, aS]
     refine tG 27 (ix [28, 29, 30]) rfl (HS.out _ Hw2.out) (yieldsIf_load_mid (by rfl) 39 _ rfl b2 (o2 + i * 11) (by rfl) (vcells ky.sc zA zc zA1 ky.keys.length zc1 zA2 ky.kids.length zc2) _ (fun w' h => h.2.2.2.2.2.2.2.2.2.2) Tryz.underlying39 rfl hi39) ?_
     simp only [aP, aN, aT, aZ, aS]
     refine wpAnyK_oneg 28 (by kernel_rfl) rfl (by rfl) (fun K' hK => ?_)
     go_simp
     refine (Hcall2.out _ Hw2.out).mono ?_
     rintro e wp ⟨bp, rfl, hgp, hep⟩
     have Hgp := Lib.hid hgp
     have hw3 : Ext wr wp := Hw2.out.trans hep
     have Hw3 := Lib.hid hw3
     clear hgp hep hw3
     refine hK.out _ _ (fun h => absurd h (by decide)) ?_
     clear hK K'
     simp only [aP, aN, aT, aZ, aS]
     refine fV 29 (v := ?v17Tx29) rfl (by rfl) ?y17Tx29 ?_
     case y17Tx29 => intro w; go_simp; with_reducible rfl
     simp only [aP, aN, aT, aZ, aS]
     refine fV 30 (v := ?v17Tx30) rfl (by rfl) ?y17Tx30 ?_
     case y17Tx30 => intro w; go_simp; with_reducible rfl
     simp only [aP, aN, aT, aZ, aS]
     refine wpAnyK_done (by kernel_rfl) ?_ _
     cases bp with
     |false =>
      go_wp2_with fail
      go_ret
      exact AnsB.mk (by simp) (HX.out.trans Hw3.out)
     |true =>
      go_wp2_with fail
      go_roundw
      case rel =>
       refine ⟨i + 1, by omega, rfl, HW.out.trans Hw3.out, fun j hj => ?_⟩
       by_cases hji : j = i
       ·subst hji
        refine ⟨hj', fun k hk => ?_, fun k hk => ?_⟩
        ·have e := hk.symm.trans Hkx.out
         injection e with e
         subst e
         exact Hgq.out (by simp)
        ·have e := hk.symm.trans Hky.out
         injection e with e
         subst e
         exact Hgp.out (by simp)
       ·exact HG.out j (by omega)
      case measure => simp [intOf]; omega
  ·obtain rfl : i = V.kids.length := by omega
   go_wp2_with fail
   go_ret
   refine AnsB.mk (fun hq => ?_) HX.out
   have hq' : V.keys.length = V.kids.length := by simp at hq; omega
   refine ⟨Hn.out, hlen, .inr (.inr (.inl ⟨Hk.out, hq', kt, lt, Hkt.out, Hmt.out, fun k hk => ?_, fun k hk => ?_⟩))⟩
   ·obtain ⟨j, hj, e⟩ := List.mem_iff_getElem.1 hk
    exact (HG.out j (by omega)).2.1 k (by rw [List.getElem?_eq_getElem hj, e])
   ·obtain ⟨j, hj, e⟩ := List.mem_iff_getElem.1 hk
    exact (HG.out j (by omega)).2.2 k (by rw [List.getElem?_eq_getElem hj, e])
end Go.Proofs.YtammjbmfiakbnaaGreatDoor
namespace Go.Proofs.YtammjbmfiakbnaaGreatDoor
open Go.RowKit
set_option maxRecDepth 100000 in
theorem kids_long (Q : Bool → Prop) (hQ : Q false) (m m2 : Nat) (w : World) (tv : Value) (T : Ty) (vs : List Value) (V : Vl) (hT : TyAt (fun _ => False) m w tv T) (hV : VlAt (fun _ => False) m2 w vs V) (hlen : (20 : Int) < V.kids.length) :
  Calls Tryz.prog 44 #[tv, .agg vs.toArray] w (AnsB Q w) := by
 obtain ⟨B, bc, B', bc', rfl⟩ := hT.form
 obtain ⟨A, c, A1, c1, A2, c2, rfl, hs⟩ := hV.form
 have HQ := Lib.hid hQ
 clear hT hV hs hQ
 simp only [vcells]
 go_enter Tryz.func44, Tryz.ntmps44
 go_wp2_with fail
 go_ret
 exact AnsB.mk HQ.out (((Ext.refl w).alloc _).alloc _)
theorem kids_any (n : Nat) (hp : PropP n) : KidsP n := by
 intro m m2 w tv T vs V hT hV hG hk hn
 by_cases hlen : V.kids.length ≤ 20
 ·rcases kinds_of2 hG.2 hk with h | h | h | h | h
  ·exact list_kids32 n hp m m2 w tv T vs V hT hV hG hn h hlen
  ·exact map_kids n hp m m2 w tv T vs V hT hV hG hn h hlen
  ·exact list_kids34 n hp m m2 w tv T vs V hT hV hG hn h hlen
  ·exact tuple_kids48 n hp m m2 w tv T vs V hT hV hG hn h hlen
  ·exact tuple_kids49 n hp m m2 w tv T vs V hT hV hG hn h hlen
 ·exact kids_long _ (by simp) m m2 w tv T vs V hT hV (by omega)
/-- Proper. -/
theorem proper_any : ∀ n, PropP n
 |0 => fun _ _ _ _ _ _ _ _ _ hG => hG.elim
 |n + 1 => fun m m2 w tv T vs V hT hV hG => proper_step n (kids_any n (proper_any n)) m m2 w tv T vs V hT hV hG
end Go.Proofs.YtammjbmfiakbnaaGreatDoor
namespace Go.Proofs.YtammjbmfiakbnaaGreatDoor
open Go.RowKit
theorem beq_tt {a b : Int} (h : a = b) : (a == b) = true := by simp [h]
theorem beq_ff {a b : Int} (h : ¬ a = b) : (a == b) = false := by simp [h]
set_option maxRecDepth 100000 in
set_option maxHeartbeats 1000000 in
theorem known_any : ∀ (d : Nat), d ≤ 8 → ∀ (m : Nat) (v : Value) (T : Ty) (w : World), TyAt (fun _ => False) m w v T →
  Calls Tryz.prog 15 #[v, .int .i64 d] w (AnsB (fun b => b = true → Good d T) w) := by
 intro d hd8
 induction d with
 |zero =>
  intro m v T w hT
  obtain ⟨A, c, A', c', rfl⟩ := hT.form
  clear hT
  go_enter Tryz.func15, Tryz.ntmps15
  go_wp2_with fail
  go_ret
  exact AnsB.mk (by simp) ((Ext.refl _).alloc _)
 |succ d ih =>
  intro m v T w hT
  cases m with
  |zero => exact hT.elim
  |succ m =>
   obtain ⟨A, c, A', c', cs, rfl, h1, h2, h3, h4, hnb, h5, h6, h7, h8⟩ := hT
   unfold maxLen at h2 h4
   have H5 := Lib.hid h5
   have H6 := Lib.hid h6
   have H7 := Lib.hid h7
   have H8 := Lib.hid h8
   have Hnb := Lib.hid hnb
   have IH := Lib.hid ih
   have hdb : (((d : Int) + 1) == 0) = false := beq_ff (by omega)
   have hwd : IntKind.i64.wrap (d : Int) = d := IntWalk.i64_in _ (by omega)
   clear h5 h6 h7 h8 hnb ih
   rw [show ((d + 1 : Nat) : Int) = (d : Int) + 1 from by omega]
   go_enter Tryz.func15, Tryz.ntmps15
   go_wp2_with fail
   generalize hWa : World.alloc _ _ = wa
   have hBa : Blk wa w.heap.size 35 #[.int .i64 T.kind, .slice A T.kids.length c, .slice A' T.names.length c'] := hWa ▸ Blk.new w 35 _
   have hEa : Ext w wa := hWa ▸ (Ext.refl w).alloc _
   have HBa := Lib.hid hBa
   have HEa := Lib.hid hEa
   clear hWa hBa hEa
   go_loopw [16] (fun v wr => ∃ i : Nat, i ≤ T.kids.length ∧ v = .int .i64 i ∧ Ext wa wr ∧ ∀ j t, j < i → T.kids[j]? = some t → Good d t) (fun v _ => T.kids.length - (intOf v).toNat)
   case atStart => exact ⟨0, Nat.zero_le _, rfl, Ext.refl _, fun j t h => by omega⟩
   case round =>
    obtain ⟨i, hi, rfl, hE, hgood⟩ := hrel
    have HE := Lib.hid hE
    have HG := Lib.hid hgood
    have hB := HBa.out.ext hE
    obtain ⟨b0, b1, b2⟩ := hB.c3
    have hlt := hB.lt
    clear hE hgood hB
    by_cases hlti : (i : Int) < T.kids.length
    ·have hi' : i < T.kids.length := by omega
     obtain ⟨ka, kb, kd, e0, e1, e2, hkid⟩ := H8.out i _ (List.getElem?_eq_getElem hi')
     have hkt : T.kids[i]? = some T.kids[i] := List.getElem?_eq_getElem hi'
     generalize T.kids[i] = kt at hkid hkt
     obtain ⟨b, o, hA, hb, hbR, hcell⟩ := H7.out (by rintro rfl; simp at e0)
     subst hA
     have hx := HEa.out.trans HE.out
     have j0 : wr.cell? ⟨b, o + i * 3, none⟩ = some ka := hx.cellS (hcell _ _ e0)
     have j1 : wr.cell? ⟨b, o + i * 3 + 1, none⟩ = some kb := hx.cellS (by rw [Nat.add_assoc]; exact hcell _ _ e1)
     have j2 : wr.cell? ⟨b, o + i * 3 + 2, none⟩ = some kd := hx.cellS (by rw [Nat.add_assoc]; exact hcell _ _ e2)
     obtain ⟨xA, xc, yA, yc, rfl, rfl, rfl⟩ := hkid.form3
     have hcall := IH.out (by omega) m _ kt (wr.alloc (.cells #[.int .i64 kt.kind, .slice xA kt.kids.length xc, .slice yA kt.names.length yc] 35)) (TyAt.onx (Onx.of_ext (hx.alloc _) _) _ _ _ hkid)
     have Hcall := Lib.hid hcall
     have Hkt := Lib.hid hkt
     clear hkid hcall hkt e0 e1 e2 hcell hx
     go_wp2_with fail
     refine Hcall.out.mono ?_
     rintro e w2 ⟨b, rfl, hg, he2⟩
     have Hg := Lib.hid hg
     have He2 := Lib.hid he2
     clear hg he2
     cases b
     ·go_wp2_with fail
      go_ret
      exact AnsB.mk (by simp) ((HEa.out.trans HE.out).trans (((Ext.refl _).alloc _).trans He2.out))
     ·go_wp2_with fail
      go_roundw
      case rel =>
       refine ⟨i + 1, by omega, rfl, HE.out.trans (((Ext.refl _).alloc _).trans He2.out), fun j t hj ht => ?_⟩
       by_cases hji : j = i
       ·subst hji
        have e := ht.symm.trans Hkt.out
        injection e with e
        subst e
        exact Hg.out (by simp)
       ·exact HG.out j t (by omega) ht
      case measure => simp [intOf]; omega
    ·obtain rfl : i = T.kids.length := by omega
     have hall : ∀ k ∈ T.kids, Good d k := fun k hk => by
      obtain ⟨j, hj, e⟩ := List.mem_iff_getElem.1 hk
      exact HG.out j k hj (by rw [List.getElem?_eq_getElem hj, e])
     have Hall := Lib.hid hall
     have hEx : Ext w wr := HEa.out.trans HE.out
     have HEx := Lib.hid hEx
     clear hall hEx HG
     have fin : ∀ (Q : Bool) (w' : World), w' = wr → (Q = true → Shape T) → AnsB (fun b => b = true → Good (d + 1) T) w (.returned (.bool Q)) w' := fun Q w' e hQ => by
      subst e
      exact AnsB.mk (fun h => ⟨Hall.out, hQ h⟩) HEx.out
     have Fin := Lib.hid fin
     clear fin
     by_cases k32 : T.kind = 32
     ·have K32 := Lib.hid k32
      have t32 : (T.kind == 32) = true := beq_tt k32
      clear k32
      by_cases e0 : T.kids.length = 1
      ·have E0 := Lib.hid e0
       have u0 : ((T.kids.length : Int) == 1) = true := beq_tt (by omega)
       clear e0
       by_cases e1 : T.names.length = 0
       ·have E1 := Lib.hid e1
        have u1 : ((T.names.length : Int) == 0) = true := beq_tt (by omega)
        clear e1
        go_wp2_with fail
        go_ret
        exact Fin.out _ _ rfl (fun _ => .inl ⟨.inl K32.out, E0.out, List.length_eq_zero_iff.1 E1.out⟩)
       ·have u1 : ((T.names.length : Int) == 0) = false := beq_ff (by omega)
        clear e1
        go_wp2_with fail
        go_ret
        exact Fin.out _ _ rfl (by simp)
      ·have u0 : ((T.kids.length : Int) == 1) = false := beq_ff (by omega)
       clear e0
       go_wp2_with fail
       go_ret
       exact Fin.out _ _ rfl (by simp)
     have t32 : (T.kind == 32) = false := beq_ff k32
     have K32 := Lib.hid k32
     clear k32
     by_cases k34 : T.kind = 34
     ·have K34 := Lib.hid k34
      have t34 : (T.kind == 34) = true := beq_tt k34
      clear k34
      by_cases e0 : T.kids.length = 1
      ·have E0 := Lib.hid e0
       have u0 : ((T.kids.length : Int) == 1) = true := beq_tt (by omega)
       clear e0
       by_cases e1 : T.names.length = 0
       ·have E1 := Lib.hid e1
        have u1 : ((T.names.length : Int) == 0) = true := beq_tt (by omega)
        clear e1
        go_wp2_with fail
        go_ret
        exact Fin.out _ _ rfl (fun _ => .inl ⟨.inr K34.out, E0.out, List.length_eq_zero_iff.1 E1.out⟩)
       ·have u1 : ((T.names.length : Int) == 0) = false := beq_ff (by omega)
        clear e1
        go_wp2_with fail
        go_ret
        exact Fin.out _ _ rfl (by simp)
      ·have u0 : ((T.kids.length : Int) == 1) = false := beq_ff (by omega)
       clear e0
       go_wp2_with fail
       go_ret
       exact Fin.out _ _ rfl (by simp)
     have t34 : (T.kind == 34) = false := beq_ff k34
     have K34 := Lib.hid k34
     clear k34
     by_cases k33 : T.kind = 33
     ·have K33 := Lib.hid k33
      have t33 : (T.kind == 33) = true := beq_tt k33
      clear k33
      by_cases e0 : T.kids.length = 2
      ·have E0 := Lib.hid e0
       have u0 : ((T.kids.length : Int) == 2) = true := beq_tt (by omega)
       clear e0
       by_cases e1 : T.names.length = 0
       ·have E1 := Lib.hid e1
        have u1 : ((T.names.length : Int) == 0) = true := beq_tt (by omega)
        clear e1
        go_wp2_with fail
        go_ret
        exact Fin.out _ _ rfl (fun _ => .inr (.inl ⟨K33.out, E0.out, List.length_eq_zero_iff.1 E1.out⟩))
       ·have u1 : ((T.names.length : Int) == 0) = false := beq_ff (by omega)
        clear e1
        go_wp2_with fail
        go_ret
        exact Fin.out _ _ rfl (by simp)
      ·have u0 : ((T.kids.length : Int) == 2) = false := beq_ff (by omega)
       clear e0
       go_wp2_with fail
       go_ret
       exact Fin.out _ _ rfl (by simp)
     have t33 : (T.kind == 33) = false := beq_ff k33
     have K33 := Lib.hid k33
     clear k33
     by_cases k49 : T.kind = 49
     ·have K49 := Lib.hid k49
      have t49 : (T.kind == 49) = true := beq_tt k49
      clear k49
      by_cases g0 : (1 : Int) ≤ T.kids.length
      ·by_cases g1 : (T.kids.length : Int) ≤ 10
       ·skip
        by_cases e0 : T.names.length = 0
        ·have E0 := Lib.hid e0
         have u0 : ((T.names.length : Int) == 0) = true := beq_tt (by omega)
         clear e0
         go_wp2_with fail
         go_ret
         exact Fin.out _ _ rfl (fun _ => .inr (.inr (.inl ⟨K49.out, by omega, by omega, List.length_eq_zero_iff.1 E0.out⟩)))
        ·have u0 : ((T.names.length : Int) == 0) = false := beq_ff (by omega)
         clear e0
         go_wp2_with fail
         go_ret
         exact Fin.out _ _ rfl (by simp)
       ·go_wp2_with fail
        go_ret
        exact Fin.out _ _ rfl (by simp)
      ·go_wp2_with fail
       go_ret
       exact Fin.out _ _ rfl (by simp)
     have t49 : (T.kind == 49) = false := beq_ff k49
     have K49 := Lib.hid k49
     clear k49
     by_cases k48 : T.kind = 48
     ·have K48 := Lib.hid k48
      have t48 : (T.kind == 48) = true := beq_tt k48
      clear k48
      go_wp2_with fail
      go_loop [76] (fun v => ∃ i : Nat, i ≤ T.names.length ∧ v = .int .i64 i ∧ Hid ((T.names.take i).Nodup)) (fun v => T.names.length - (intOf v).toNat)
      case atStart => exact ⟨0, Nat.zero_le _, rfl, Lib.hid (by simp)⟩
      case round =>
       obtain ⟨i, hi, rfl, Hnd⟩ := hrel
       by_cases hin : (i : Int) < T.names.length
       ·have hin' : i < T.names.length := by omega
        obtain ⟨b, o, hA, hb, hbR, hcell⟩ := H5.out (by intro e; simp at e; rw [e] at hin'; simp at hin')
        subst hA
        have hmem : T.names[i] ∈ T.names := List.getElem_mem hin'
        have hbd := Hnb.out _ hmem
        have hsi : T.names[i]? = some T.names[i] := List.getElem?_eq_getElem hin'
        have j0 : wr.cell? ⟨b, o + i, none⟩ = some (.string T.names[i]) := HEx.out.cellS (hcell i _ (by simp [hsi]))
        generalize T.names[i] = s at hbd hsi j0
        have Hsi := Lib.hid hsi
        have Hbd := Lib.hid hbd
        have Hc := Lib.hid hcell
        clear hsi hbd hcell hmem
        have hic : (i : Int) ≤ c' := by omega
        have hi0 : (0 : Int) ≤ i := by omega
        go_wp2_with fail
        go_loop [10, 86] (fun _ v => ∃ j : Nat, j ≤ i ∧ v = .int .i64 j ∧ Hid (∀ a x, a < j → T.names[a]? = some x → ¬ x.toList = s.toList)) (fun _ v => i - (intOf v).toNat)
        case atStart => exact ⟨0, Nat.zero_le _, rfl, Lib.hid (fun a x h => by omega)⟩
        case round =>
         obtain ⟨j, hj, rfl, Hne⟩ := hrel
         by_cases hji : (j : Int) < i
         ·have hjn : j < T.names.length := by omega
          have hsj : T.names[j]? = some T.names[j] := List.getElem?_eq_getElem hjn
          have q0 : wr.cell? ⟨b, o + j, none⟩ = some (.string T.names[j]) := HEx.out.cellS (Hc.out j _ (by simp [hsj]))
          generalize T.names[j] = u at hsj q0
          have Hsj := Lib.hid hsj
          clear hsj
          by_cases hus : u.toList = s.toList
          ·have hu : (u.toList == s.toList) = true := by simp [hus]
           clear hus
           go_wp2_with fail
           go_ret
           exact Fin.out _ _ rfl (by simp)
          ·have hu : (u.toList == s.toList) = false := by simp [hus]
           have Hus := Lib.hid hus
           clear hus
           go_wp2_with fail
           go_round
           case rel =>
            refine ⟨j + 1, by omega, by go_num, Lib.hid (fun a x ha hx => ?_)⟩
            by_cases haj : a = j
            ·subst haj
             have e := Hsj.out.symm.trans hx
             injection e with e
             subst e
             exact Hus.out
            ·exact Hne.out a x (by omega) hx
           case measure => simp [intOf]; omega
         ·have hnodup : (T.names.take (i + 1)).Nodup := by
           obtain rfl : j = i := by omega
           rw [List.take_add_one, Hsi.out]
           simp only [Option.toList_some]
           rw [List.nodup_append]
           refine ⟨Hnd.out, by simp, fun x hx y hy => ?_⟩
           simp only [List.mem_singleton] at hy
           subst hy
           rintro rfl
           obtain ⟨k, hk, e⟩ := List.mem_iff_getElem.1 hx
           rw [List.length_take] at hk
           rw [List.getElem_take] at e
           have hkn : k < T.names.length := by omega
           exact Hne.out k x (by omega) (by rw [List.getElem?_eq_getElem hkn, e]) rfl
          have Hnodup := Lib.hid hnodup
          clear hnodup
          by_cases hse : s.toList = []
          ·go_wp2_with fail
           go_ret
           exact Fin.out _ _ rfl (by simp)
          ·have hu : s.toList.isEmpty = false := by simp [hse]
           have Has := Lib.hid (ascii_any s Hbd.out wr)
           go_wp2_with fail
           refine Has.out.mono ?_
           rintro e w' ⟨bb, rfl, _, rfl⟩
           cases bb
           ·go_wp2_with fail
            go_ret
            exact Fin.out _ _ rfl (by simp)
           ·go_wp2_with fail
            go_round
            case rel => exact ⟨i + 1, by omega, by go_num, Hnodup⟩
            case measure => simp [intOf]; omega
       ·have hnd : T.names.Nodup := by
         have := Hnd.out
         rwa [List.take_of_length_le (by omega)] at this
        have HN := Lib.hid hnd
        clear hnd Hnd
        by_cases g0 : (1 : Int) ≤ T.kids.length
        ·by_cases g1 : (T.kids.length : Int) ≤ 10
         ·by_cases e0 : T.names.length = T.kids.length
          ·have E0 := Lib.hid e0
           have u0 : ((T.names.length : Int) == (T.kids.length : Int)) = true := beq_tt (by omega)
           clear e0
           go_wp2_with fail
           go_ret
           exact Fin.out _ _ rfl (fun _ => .inr (.inr (.inr (.inl ⟨K48.out, by omega, by omega, E0.out, HN.out⟩))))
          ·have u0 : ((T.names.length : Int) == (T.kids.length : Int)) = false := beq_ff (by omega)
           clear e0
           go_wp2_with fail
           go_ret
           exact Fin.out _ _ rfl (by simp)
         ·go_wp2_with fail
          go_ret
          exact Fin.out _ _ rfl (by simp)
        ·go_wp2_with fail
         go_ret
         exact Fin.out _ _ rfl (by simp)
     have t48 : (T.kind == 48) = false := beq_ff k48
     have K48 := Lib.hid k48
     clear k48
     by_cases k10 : T.kind = 10
     ·have K10 := Lib.hid k10
      have t10 : (T.kind == 10) = true := beq_tt k10
      clear k10
      go_wp2_with fail
      go_ret
      exact Fin.out _ _ rfl (by simp)
     have t10 : (T.kind == 10) = false := beq_ff k10
     have K10 := Lib.hid k10
     clear k10
     by_cases k0 : T.kind = 0
     ·have K0 := Lib.hid k0
      have t0 : (T.kind == 0) = true := beq_tt k0
      clear k0
      go_wp2_with fail
      go_ret
      exact Fin.out _ _ rfl (by simp)
     have t0 : (T.kind == 0) = false := beq_ff k0
     have K0 := Lib.hid k0
     clear k0
     by_cases g0 : (1 : Int) ≤ T.kind
     ·by_cases g1 : T.kind ≤ 21
      ·skip
       by_cases e0 : T.kids.length = 0
       ·have E0 := Lib.hid e0
        have u0 : ((T.kids.length : Int) == 0) = true := beq_tt (by omega)
        clear e0
        by_cases e1 : T.names.length = 0
        ·have E1 := Lib.hid e1
         have u1 : ((T.names.length : Int) == 0) = true := beq_tt (by omega)
         clear e1
         go_wp2_with fail
         go_ret
         exact Fin.out _ _ rfl (fun _ => .inr (.inr (.inr (.inr ⟨g0, g1, K10.out, List.length_eq_zero_iff.1 E0.out, List.length_eq_zero_iff.1 E1.out⟩))))
        ·have u1 : ((T.names.length : Int) == 0) = false := beq_ff (by omega)
         clear e1
         go_wp2_with fail
         go_ret
         exact Fin.out _ _ rfl (by simp)
       ·have u0 : ((T.kids.length : Int) == 0) = false := beq_ff (by omega)
        clear e0
        go_wp2_with fail
        go_ret
        exact Fin.out _ _ rfl (by simp)
      ·go_wp2_with fail
       go_ret
       exact Fin.out _ _ rfl (by simp)
     ·go_wp2_with fail
      go_ret
      exact Fin.out _ _ rfl (by simp)
end Go.Proofs.YtammjbmfiakbnaaGreatDoor
namespace Go.Proofs.YtammjbmfiakbnaaGreatDoor
open Go.RowKit
set_option maxRecDepth 100000 in
set_option maxHeartbeats 4000000 in
theorem fits_any (m m2 : Nat) (w : World) (tv : Value) (T : Ty) (vs : List Value) (V : Vl) (hT : TyAt (fun _ => False) m w tv T) (hV : VlAt (fun _ => False) m2 w vs V) :
  Calls Tryz.prog 10 #[tv, .agg vs.toArray] w (AnsB (fun b => b = true → Good 5 T ∧ GoodV 5 T V) w) := by
 obtain ⟨B, bc, B', bc', rfl⟩ := hT.form
 obtain ⟨A, c, A1, c1, A2, c2, rfl, hs⟩ := hV.form
 have HT := Lib.hid hT
 have HV := Lib.hid hV
 clear hT hV hs
 simp only [vcells] at HV ⊢
 go_enter Tryz.func10, Tryz.ntmps10
 go_wp2_with fail
 generalize hW : World.alloc (World.alloc w _) _ = W
 have h0 : Blk W w.heap.size 35 #[.int .i64 T.kind, .slice B T.kids.length bc, .slice B' T.names.length bc'] ∧ Blk W (w.heap.size + 1) 39 #[.bool V.sc.nul, .int .i64 V.sc.n, .float .f64 V.sc.f, .string V.sc.text, .slice A V.sc.data.length c, .int .i64 V.sc.scale, .int .i64 V.sc.months, .int .i64 V.sc.days, .int .i64 V.sc.nanos, .slice A1 V.keys.length c1, .slice A2 V.kids.length c2] ∧ Ext w W := by
  rw [← hW]
  exact ⟨(Blk.new w 35 _).alloc _, Blk.new' _ _ 39 _ (by simp), ((Ext.refl w).alloc _).alloc _⟩
 clear hW
 obtain ⟨hb1, hb2, hE⟩ := h0
 have HE := Lib.hid hE
 have HB1 := Lib.hid hb1
 have HB2 := Lib.hid hb2
 clear hb1 hb2
 refine (known_any 5 (by omega) m _ T W (TyAt.onx (Onx.of_ext hE _) _ _ _ HT.out)).mono ?_
 rintro e w1 ⟨b, rfl, hk, he⟩
 have Hk := Lib.hid hk
 have HX1 := Lib.hid he
 clear hk hE he
 cases b with
 |false =>
  go_wp2_with fail
  go_ret
  exact AnsB.mk (by simp) (HE.out.trans HX1.out)
 |true =>
  have hG := Hk.out (by simp)
  have HG := Lib.hid hG
  have hx := HE.out.trans HX1.out
  have hc := proper_any 5 m m2 w1 _ T _ V (TyAt.onx (Onx.of_ext hx _) _ _ _ HT.out) (VlAt.onx (Onx.of_ext hx _) _ _ _ HV.out) hG
  have Hc := Lib.hid hc
  clear hG hx hc
  obtain ⟨b0, b1, b2⟩ := (HB1.out.ext HX1.out).c3
  obtain ⟨d0, d1, d2, d3, d4, d5, d6, d7, d8, d9, d10⟩ := (HB2.out.ext HX1.out).c11
  go_wp2_with fail
  refine Hc.out.mono ?_
  rintro e w2 ⟨b, rfl, hp, he⟩
  have Hp := Lib.hid hp
  have HX2 := Lib.hid (HX1.out.trans he)
  clear hp he b0 b1 b2 d0 d1 d2 d3 d4 d5 d6 d7 d8 d9 d10
  cases b with
  |false =>
   go_wp2_with fail
   go_ret
   exact AnsB.mk (by simp) (HE.out.trans HX2.out)
  |true =>
   have hx := HE.out.trans HX2.out
   have hc := apart_any 5 (by omega) m m2 w2 _ T _ V (TyAt.onx (Onx.of_ext hx _) _ _ _ HT.out) (VlAt.onx (Onx.of_ext hx _) _ _ _ HV.out) HG.out (Hp.out (by simp))
   have Hc := Lib.hid hc
   clear hx hc
   obtain ⟨b0, b1, b2⟩ := (HB1.out.ext HX2.out).c3
   obtain ⟨d0, d1, d2, d3, d4, d5, d6, d7, d8, d9, d10⟩ := (HB2.out.ext HX2.out).c11
   go_wp2_with fail
   refine Hc.out.mono ?_
   rintro e w3 ⟨b, rfl, -, he⟩
   have HX3 := Lib.hid (HX2.out.trans he)
   clear he b0 b1 b2 d0 d1 d2 d3 d4 d5 d6 d7 d8 d9 d10
   go_wp2_with fail
   go_ret
   exact AnsB.mk (fun _ => ⟨HG.out, Hp.out (by simp)⟩) (HE.out.trans HX3.out)
end Go.Proofs.YtammjbmfiakbnaaGreatDoor
