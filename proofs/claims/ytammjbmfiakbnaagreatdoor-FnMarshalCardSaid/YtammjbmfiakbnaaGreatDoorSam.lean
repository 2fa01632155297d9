/- A part of the proof that the card of laws.FnMarshal holds. No conditions. -/
import Derived.Test.YtammjbmfiakbnaaGreatDoorBnk
import Derived.Test.YtammjbmfiakbnaaGreatDoorTks
set_option linter.unusedSimpArgs false
set_option linter.unusedVariables false
namespace Go.Proofs.YtammjbmfiakbnaaGreatDoor
open Go.RowKit
/-- Same's contract. -/
def SameP (n : Nat) : Prop := ∀ (m m2 m3 : Nat) (w : World) (tv : Value) (T : Ty) (vs us : List Value) (V U : Vl), TyAt (fun _ => False) m w tv T → VlAt (fun _ => False) m2 w vs V → VlAt (fun _ => False) m3 w us U → Good n T → (V.sc.nul = true ∨ GoodV n T V) → (U.sc.nul = true ∨ GoodV n T U) →
 Calls Tryz.prog 45 #[tv, .agg vs.toArray, .agg us.toArray] w (AnsB (fun _ => True) w)
theorem samF {n : Nat} {T : Ty} {V : Vl} (h : V.sc.nul = true ∨ GoodV n T V) (hn : V.sc.nul = false) : GoodV n T V := h.resolve_left (by rw [hn]; exact Bool.false_ne_true)
theorem conv_out {w : World} {r : Value} {l : List UInt8} (h : Bytes w r l) : (convert 27 9 r).run Tryz.prog w = .ok (.string ⟨l.toArray⟩) w := by
 obtain ⟨A, c, rfl, hc, hs⟩ := h
 exact Bytes.toStr ⟨A, c, rfl, hc, hs⟩ 27 5 9 Tryz.underlying27 Tryz.underlying5 Tryz.underlying9
set_option maxRecDepth 100000 in
set_option maxHeartbeats 16000000 in
theorem same_leaf (n : Nat) (hn5 : n + 1 ≤ 5) (hp : BinP (n + 1)) (m m2 m3 : Nat) (w : World) (tv : Value) (T : Ty) (vs us : List Value) (V U : Vl) (hT : TyAt (fun _ => False) m w tv T) (hV : VlAt (fun _ => False) m2 w vs V) (hU : VlAt (fun _ => False) m3 w us U) (hG : Good (n + 1) T) (hn : V.sc.nul = false) (hn' : U.sc.nul = false) (hg : GoodV (n + 1) T V) (hg' : GoodV (n + 1) T U) (h : T.kind < 32) :
  Calls Tryz.prog 45 #[tv, .agg vs.toArray, .agg us.toArray] w (AnsB (fun _ => True) w) := by
 obtain ⟨B, bc, B', bc', rfl⟩ := hT.form
 cases m2 with
 |zero => exact hV.elim
 |succ m2 =>
 cases m3 with
 |zero => exact hU.elim
 |succ m3 =>
 cases m with
 |zero => exact hT.elim
 |succ m =>
 have hk0 : T.kids.length = 0 := by
  rcases hG.2 with ⟨h', _⟩ | ⟨h', _⟩ | ⟨h', _⟩ | ⟨h', _⟩ | ⟨_, _, _, h', _⟩
  ·omega
  ·omega
  ·omega
  ·omega
  ·rw [h']; rfl
 have HG := Lib.hid hG
 have Hg := Lib.hid hg
 have Hg' := Lib.hid hg'
 have HT0 := Lib.hid hT
 have HV0 := Lib.hid hV
 have HU0 := Lib.hid hU
 obtain ⟨A, c, A1, c1, A2, c2, rfl, q1, q2, q3, q4, q5, q6, hs, hd, hrow1, hrow⟩ := hV
 obtain ⟨uA, uc, uA1, uc1, uA2, uc2, rfl, p1, p2, p3, p4, p5, p6, hs', hd', hrow1', hrow'⟩ := hU
 have HR := Lib.hid hrow
 have HR1 := Lib.hid hrow1
 have HS := Lib.hid hrow'
 have HS1 := Lib.hid hrow1'
 have Hp := Lib.hid hp
 clear hT hs hs' hG hd hd' hg hg' hrow hrow1 hrow' hrow1' hp
 simp only [vcells] at HV0 HU0 ⊢
 rw [hn] at HV0 ⊢
 rw [hn'] at HU0 ⊢
 rw [hk0] at HT0 ⊢
 unfold maxLen at q2 q4 q6 p2 p4 p6
 go_enter Tryz.func45, Tryz.ntmps45
 have t33 : (T.kind != 33) = true := by simp; omega
 go_upto_region 5 with fail
 generalize hW : World.alloc (World.alloc (World.alloc w _) _) _ = W
 have h0 : Blk W w.heap.size 35 #[.int .i64 T.kind, .slice B 0 bc, .slice B' T.names.length bc'] ∧ Blk W (w.heap.size + 1) 39 #[.bool false, .int .i64 V.sc.n, .float .f64 V.sc.f, .string V.sc.text, .slice A V.sc.data.length c, .int .i64 V.sc.scale, .int .i64 V.sc.months, .int .i64 V.sc.days, .int .i64 V.sc.nanos, .slice A1 V.keys.length c1, .slice A2 V.kids.length c2] ∧ Blk W (w.heap.size + 1 + 1) 39 #[.bool false, .int .i64 U.sc.n, .float .f64 U.sc.f, .string U.sc.text, .slice uA U.sc.data.length uc, .int .i64 U.sc.scale, .int .i64 U.sc.months, .int .i64 U.sc.days, .int .i64 U.sc.nanos, .slice uA1 U.keys.length uc1, .slice uA2 U.kids.length uc2] ∧ Ext w W := by
  rw [← hW]
  exact ⟨((Blk.new w 35 _).alloc _).alloc _, (Blk.new' _ _ 39 _ (by simp)).alloc _, Blk.new' _ _ 39 _ (by simp), (((Ext.refl w).alloc _).alloc _).alloc _⟩
 clear hW
 obtain ⟨hb1, hb2, hb3, hE⟩ := h0
 have hlt := hb3.lt
 have HE := Lib.hid hE
 have HB1 := Lib.hid hb1
 have HB2 := Lib.hid hb2
 have HB3 := Lib.hid hb3
 clear hb1 hb2 hb3 hE
 have hS : ∀ wz, Ext W wz → wz.cell? ⟨w.heap.size, 0, none⟩ = some (.int .i64 T.kind) ∧ wz.cell? ⟨w.heap.size, 1, none⟩ = some (.slice B 0 bc) ∧ wz.cell? ⟨w.heap.size, 2, none⟩ = some (.slice B' T.names.length bc') ∧ wz.rangeAt (w.heap.size + 1) 0 [.bool false, .int .i64 V.sc.n, .float .f64 V.sc.f, .string V.sc.text, .slice A V.sc.data.length c, .int .i64 V.sc.scale, .int .i64 V.sc.months, .int .i64 V.sc.days, .int .i64 V.sc.nanos, .slice A1 V.keys.length c1, .slice A2 V.kids.length c2] ∧ wz.rangeAt (w.heap.size + 1 + 1) 0 [.bool false, .int .i64 U.sc.n, .float .f64 U.sc.f, .string U.sc.text, .slice uA U.sc.data.length uc, .int .i64 U.sc.scale, .int .i64 U.sc.months, .int .i64 U.sc.days, .int .i64 U.sc.nanos, .slice uA1 U.keys.length uc1, .slice uA2 U.kids.length uc2] := fun wz he => ⟨(HB1.out.ext he).cell 0, (HB1.out.ext he).cell 1, (HB1.out.ext he).cell 2, Blk.range (HB2.out.ext he), Blk.range (HB3.out.ext he)⟩
 have hc1 : ∀ wz, Ext W wz → _ := fun wz he => Hp.out (m + 1) (m2 + 1) wz _ T _ V (TyAt.onx (Onx.of_ext (HE.out.trans he) _) _ _ _ HT0.out) (VlAt.onx (Onx.of_ext (HE.out.trans he) _) _ _ _ HV0.out) HG.out Hg.out
 have hc2 : ∀ wz, Ext W wz → _ := fun wz he => Hp.out (m + 1) (m3 + 1) wz _ T _ U (TyAt.onx (Onx.of_ext (HE.out.trans he) _) _ _ _ HT0.out) (VlAt.onx (Onx.of_ext (HE.out.trans he) _) _ _ _ HU0.out) HG.out Hg'.out
 have HSS := Lib.hid hS
 have Hc1 := Lib.hid hc1
 have Hc2 := Lib.hid hc2
 have hst : Ext W W.drew := (Ext.refl W).drew
 have Hst := Lib.hid hst
 clear hS hc1 hc2 hst
 refine wp_region_K (fun w' => w'.cell? ⟨w.heap.size, 0, none⟩ = some (.int .i64 T.kind) ∧ w'.cell? ⟨w.heap.size, 1, none⟩ = some (.slice B 0 bc) ∧ w'.cell? ⟨w.heap.size, 2, none⟩ = some (.slice B' T.names.length bc') ∧ w'.rangeAt (w.heap.size + 1) 0 [.bool false, .int .i64 V.sc.n, .float .f64 V.sc.f, .string V.sc.text, .slice A V.sc.data.length c, .int .i64 V.sc.scale, .int .i64 V.sc.months, .int .i64 V.sc.days, .int .i64 V.sc.nanos, .slice A1 V.keys.length c1, .slice A2 V.kids.length c2] ∧ w'.rangeAt (w.heap.size + 1 + 1) 0 [.bool false, .int .i64 U.sc.n, .float .f64 U.sc.f, .string U.sc.text, .slice uA U.sc.data.length uc, .int .i64 U.sc.scale, .int .i64 U.sc.months, .int .i64 U.sc.days, .int .i64 U.sc.nanos, .slice uA1 U.keys.length uc1, .slice uA2 U.kids.length uc2]) (rg 0 7) 10 [false, false, false, false, false, false, false, false, false, false] (by kernel_rfl) rfl rfl ?_
 refine tV 0 (ix [2, 3, 6, 7, 8, 9]) (v := ?v5Lx0) rfl (HSS.out _ Hst.out) (by rfl) ?y5Lx0 ?_
 case y5Lx0 => rintro w ⟨s1, s2, s3, s4, s5⟩; go_simp; with_reducible rfl
 simp only [aP, aN, aT, aZ, aS]
 refine tG 1 (ix [2, 3, 6, 7, 8, 9]) rfl (HSS.out _ Hst.out) (yieldsIf_load_mid (by rfl) 39 _ rfl (w.heap.size + 1) 0 (by rfl) [.bool false, .int .i64 V.sc.n, .float .f64 V.sc.f, .string V.sc.text, .slice A V.sc.data.length c, .int .i64 V.sc.scale, .int .i64 V.sc.months, .int .i64 V.sc.days, .int .i64 V.sc.nanos, .slice A1 V.keys.length c1, .slice A2 V.kids.length c2] _ (fun w' h => h.2.2.2.1) Tryz.underlying39 rfl hi39) ?_
 simp only [aP, aN, aT, aZ, aS]
 refine tV 4 (rg 6 9) (v := ?v5Lx4) rfl (HSS.out _ Hst.out) (by rfl) ?y5Lx4 ?_
 case y5Lx4 => rintro w ⟨s1, s2, s3, s4, s5⟩; go_simp; with_reducible rfl
 simp only [aP, aN, aT, aZ, aS]
 refine tG 5 (rg 6 9) rfl (HSS.out _ Hst.out) (yieldsIf_load_mid (by rfl) 39 _ rfl (w.heap.size + 1 + 1) 0 (by rfl) [.bool false, .int .i64 U.sc.n, .float .f64 U.sc.f, .string U.sc.text, .slice uA U.sc.data.length uc, .int .i64 U.sc.scale, .int .i64 U.sc.months, .int .i64 U.sc.days, .int .i64 U.sc.nanos, .slice uA1 U.keys.length uc1, .slice uA2 U.kids.length uc2] _ (fun w' h => h.2.2.2.2) Tryz.underlying39 rfl hi39) ?_
 simp only [aP, aN, aT, aZ, aS]
 refine wpAnyK_oneg 2 (by kernel_rfl) rfl (by rfl) (fun K' hK => ?_)
 go_simp
 refine (Hc1.out _ Hst.out).mono ?_
 rintro e w2 ⟨r1, rfl, hr1⟩
 obtain ⟨ra, rc, rfl, -⟩ := ownB_slice hr1.1
 have hx2 : Ext W w2 := Hst.out.trans hr1.2
 have hb1 : ∀ wz, Ext w2 wz → (convert 27 9 (.slice ra (enc (n + 1) T V).length rc)).run Tryz.prog wz = .ok (.string ⟨(enc (n + 1) T V).toArray⟩) wz := fun wz he => conv_out ((own_bytes hr1.1).ext he)
 have Hb1 := Lib.hid hb1
 have Hx2 := Lib.hid hx2
 generalize (enc (n + 1) T V).length = la at Hb1 ⊢
 generalize (⟨(enc (n + 1) T V).toArray⟩ : ByteArray) = s1 at Hb1 ⊢
 clear hr1 hx2 hb1
 refine hK.out _ _ (fun _ => (HSS.out _ Hx2.out)) ?_
 clear hK K'
 simp only [aP, aN, aT, aZ, aS]
 refine wpAnyK_strong (S' := (fun w' => (w'.cell? ⟨w.heap.size, 0, none⟩ = some (.int .i64 T.kind) ∧ w'.cell? ⟨w.heap.size, 1, none⟩ = some (.slice B 0 bc) ∧ w'.cell? ⟨w.heap.size, 2, none⟩ = some (.slice B' T.names.length bc') ∧ w'.rangeAt (w.heap.size + 1) 0 [.bool false, .int .i64 V.sc.n, .float .f64 V.sc.f, .string V.sc.text, .slice A V.sc.data.length c, .int .i64 V.sc.scale, .int .i64 V.sc.months, .int .i64 V.sc.days, .int .i64 V.sc.nanos, .slice A1 V.keys.length c1, .slice A2 V.kids.length c2] ∧ w'.rangeAt (w.heap.size + 1 + 1) 0 [.bool false, .int .i64 U.sc.n, .float .f64 U.sc.f, .string U.sc.text, .slice uA U.sc.data.length uc, .int .i64 U.sc.scale, .int .i64 U.sc.months, .int .i64 U.sc.days, .int .i64 U.sc.nanos, .slice uA1 U.keys.length uc1, .slice uA2 U.kids.length uc2]) ∧ (convert 27 9 (.slice ra la rc)).run Tryz.prog w' = .ok (.string s1) w')) (fun _ h => h.1) ?_
 refine tV 3 (ix [8, 9]) (v := ?v5Mx3) rfl ⟨HSS.out _ Hx2.out, Hb1.out _ (Ext.refl _)⟩ (by rfl) ?y5Mx3 ?_
 case y5Mx3 => rintro w ⟨⟨s1, s2, s3, s4, s5⟩, s6⟩; go_simp; with_reducible rfl
 simp only [aP, aN, aT, aZ, aS]
 refine wpAnyK_oneg 6 (by kernel_rfl) rfl (by rfl) (fun K' hK => ?_)
 go_simp
 refine (Hc2.out _ Hx2.out).mono ?_
 rintro e w3 ⟨r2, rfl, hr2⟩
 obtain ⟨ra2, rc2, rfl, -⟩ := ownB_slice hr2.1
 have hx3 : Ext W w3 := Hx2.out.trans hr2.2
 have He3 := Lib.hid hr2.2
 have hb2 : (convert 27 9 (.slice ra2 (enc (n + 1) T U).length rc2)).run Tryz.prog w3 = .ok (.string ⟨(enc (n + 1) T U).toArray⟩) w3 := conv_out (own_bytes hr2.1)
 have Hb2 := Lib.hid hb2
 have Hx3 := Lib.hid hx3
 generalize (enc (n + 1) T U).length = la2 at Hb2 ⊢
 generalize (⟨(enc (n + 1) T U).toArray⟩ : ByteArray) = s2 at Hb2 ⊢
 clear hr2 hx3 hb2
 refine hK.out _ _ (fun _ => ⟨HSS.out _ Hx3.out, Hb1.out _ He3.out⟩) ?_
 clear hK K'
 simp only [aP, aN, aT, aZ, aS]
 refine wpAnyK_strong (S' := (fun w' => ((w'.cell? ⟨w.heap.size, 0, none⟩ = some (.int .i64 T.kind) ∧ w'.cell? ⟨w.heap.size, 1, none⟩ = some (.slice B 0 bc) ∧ w'.cell? ⟨w.heap.size, 2, none⟩ = some (.slice B' T.names.length bc') ∧ w'.rangeAt (w.heap.size + 1) 0 [.bool false, .int .i64 V.sc.n, .float .f64 V.sc.f, .string V.sc.text, .slice A V.sc.data.length c, .int .i64 V.sc.scale, .int .i64 V.sc.months, .int .i64 V.sc.days, .int .i64 V.sc.nanos, .slice A1 V.keys.length c1, .slice A2 V.kids.length c2] ∧ w'.rangeAt (w.heap.size + 1 + 1) 0 [.bool false, .int .i64 U.sc.n, .float .f64 U.sc.f, .string U.sc.text, .slice uA U.sc.data.length uc, .int .i64 U.sc.scale, .int .i64 U.sc.months, .int .i64 U.sc.days, .int .i64 U.sc.nanos, .slice uA1 U.keys.length uc1, .slice uA2 U.kids.length uc2]) ∧ (convert 27 9 (.slice ra la rc)).run Tryz.prog w' = .ok (.string s1) w') ∧ (convert 27 9 (.slice ra2 la2 rc2)).run Tryz.prog w' = .ok (.string s2) w')) (fun _ h => h.1) ?_
 refine wpAnyK_take 7 (ix [8, 9]) (v := ?v5Nx7) rfl (by kernel_rfl) (fun _ _ _ h => h) ⟨⟨HSS.out _ Hx3.out, Hb1.out _ He3.out⟩, Hb2.out⟩ (Or.inl ⟨by rfl, ?y5Nx7⟩) ?_
 case y5Nx7 => rintro w ⟨⟨⟨s1, s2, s3, s4, s5⟩, s6⟩, s7⟩; go_simp; with_reducible rfl
 simp only [aP, aN, aT, aZ, aS]
 refine fV 8 (v := ?v5Nx8) rfl (by rfl) ?y5Nx8 ?_
 case y5Nx8 => intro w; go_simp; with_reducible rfl
 simp only [aP, aN, aT, aZ, aS]
 refine fV 9 (v := ?v5Nx9) rfl (by rfl) ?y5Nx9 ?_
 case y5Nx9 => intro w; go_simp; with_reducible rfl
 simp only [aP, aN, aT, aZ, aS]
 refine wpAnyK_done (by kernel_rfl) ?_ _
 go_wp2_with fail
 go_ret
 exact AnsB.mk trivial (HE.out.trans Hx3.out)
set_option maxRecDepth 100000 in
set_option maxHeartbeats 16000000 in
theorem same_seq32 (n : Nat) (hn5 : n + 1 ≤ 5) (hp : SameP n) (m m2 m3 : Nat) (w : World) (tv : Value) (T : Ty) (vs us : List Value) (V U : Vl) (hT : TyAt (fun _ => False) m w tv T) (hV : VlAt (fun _ => False) m2 w vs V) (hU : VlAt (fun _ => False) m3 w us U) (hG : Good (n + 1) T) (hn : V.sc.nul = false) (hn' : U.sc.nul = false) (hg : GoodV (n + 1) T V) (hg' : GoodV (n + 1) T U) (h : T.kind = 32) :
  Calls Tryz.prog 45 #[tv, .agg vs.toArray, .agg us.toArray] w (AnsB (fun _ => True) w) := by
 obtain ⟨B, bc, B', bc', rfl⟩ := hT.form
 cases m2 with
 |zero => exact hV.elim
 |succ m2 =>
 cases m3 with
 |zero => exact hU.elim
 |succ m3 =>
 cases m with
 |zero => exact hT.elim
 |succ m =>
 have hl1 : T.kids.length = 1 := by
  have := hG.2
  unfold Shape at this
  omega
 have hkt : T.kids[0]? = some T.kids[0] := List.getElem?_eq_getElem (by omega)
 have hkg : Good n T.kids[0] := hG.1 _ (List.getElem_mem _)
 generalize T.kids[0] = kt at hkt hkg
 have HT := Lib.hid (tkid_at hT hkt)
 have gk : ∀ X : Vl, GoodV (n + 1) T X → ∀ k ∈ X.kids, GoodV n kt k := fun X hg => by
  obtain ⟨-, h20, hg⟩ := hg
  rcases hg with ⟨h', _⟩ | ⟨_, _, t, ht, hall⟩ | ⟨h', _⟩ | ⟨h', _⟩
  ·omega
  ·rw [hkt] at ht
   injection ht with ht
   subst ht
   exact hall
  ·omega
  ·omega
 have Hgk := Lib.hid (gk V hg)
 have Hgk' := Lib.hid (gk U hg')
 have Hkg := Lib.hid hkg
 have hpos : 0 < T.kids.length := by omega
 clear gk hkt hkg hl1
 have HT0 := Lib.hid hT
 have HV0 := Lib.hid hV
 have HU0 := Lib.hid hU
 obtain ⟨A, c, A1, c1, A2, c2, rfl, q1, q2, q3, q4, q5, q6, hs, hd, hrow1, hrow⟩ := hV
 obtain ⟨uA, uc, uA1, uc1, uA2, uc2, rfl, p1, p2, p3, p4, p5, p6, hs', hd', hrow1', hrow'⟩ := hU
 have HR := Lib.hid hrow
 have HR1 := Lib.hid hrow1
 have HS := Lib.hid hrow'
 have HS1 := Lib.hid hrow1'
 have Hp := Lib.hid hp
 clear hT hs hs' hG hd hd' hg hg' hrow hrow1 hrow' hrow1' hp
 simp only [vcells] at HV0 HU0 ⊢
 rw [hn] at HV0 ⊢
 rw [hn'] at HU0 ⊢
 unfold maxLen at q2 q4 q6 p2 p4 p6
 go_enter Tryz.func45, Tryz.ntmps45
 have t33 : (T.kind != 33) = true := by simp [h]
 have t49 : (T.kind == 49) = false := by simp [h]
 have t48 : (T.kind == 48) = false := by simp [h]
 have tk0 : ((T.kids.length : Int) == 0) = false := beq_eq_false_iff_ne.2 (by omega)
 clear h
 go_upto_region 1 with fail
 generalize hW : World.alloc (World.alloc (World.alloc w _) _) _ = W
 have h0 : Blk W w.heap.size 35 #[.int .i64 T.kind, .slice B T.kids.length bc, .slice B' T.names.length bc'] ∧ Blk W (w.heap.size + 1) 39 #[.bool false, .int .i64 V.sc.n, .float .f64 V.sc.f, .string V.sc.text, .slice A V.sc.data.length c, .int .i64 V.sc.scale, .int .i64 V.sc.months, .int .i64 V.sc.days, .int .i64 V.sc.nanos, .slice A1 V.keys.length c1, .slice A2 V.kids.length c2] ∧ Blk W (w.heap.size + 1 + 1) 39 #[.bool false, .int .i64 U.sc.n, .float .f64 U.sc.f, .string U.sc.text, .slice uA U.sc.data.length uc, .int .i64 U.sc.scale, .int .i64 U.sc.months, .int .i64 U.sc.days, .int .i64 U.sc.nanos, .slice uA1 U.keys.length uc1, .slice uA2 U.kids.length uc2] ∧ Ext w W := by
  rw [← hW]
  exact ⟨((Blk.new w 35 _).alloc _).alloc _, (Blk.new' _ _ 39 _ (by simp)).alloc _, Blk.new' _ _ 39 _ (by simp), (((Ext.refl w).alloc _).alloc _).alloc _⟩
 clear hW
 obtain ⟨hb1, hb2, hb3, hE⟩ := h0
 have hlt := hb3.lt
 have HE := Lib.hid hE
 have HB1 := Lib.hid hb1
 have HB2 := Lib.hid hb2
 have HB3 := Lib.hid hb3
 clear hb1 hb2 hb3 hE
 obtain ⟨b0, b1, b2⟩ := HB1.out.c3
 obtain ⟨d0, d1, d2, d3, d4, d5, d6, d7, d8, d9, d10⟩ := HB2.out.c11
 obtain ⟨e0, e1, e2, e3, e4, e5, e6, e7, e8, e9, e10⟩ := HB3.out.c11
 by_cases hlen : (V.kids.length : Int) = U.kids.length
 ·have hq : ((V.kids.length : Int) != U.kids.length) = false := by simp [hlen]
  have Hlen := Lib.hid hlen
  clear hlen
  go_wp2_with fail
  clear d0 d1 d2 d3 d4 d5 d6 d7 d8 d9 d10 e0 e1 e2 e3 e4 e5 e6 e7 e8 e9 e10 b0 b1 b2
  go_loopw [49] (fun v wr => ∃ i : Nat, i ≤ V.kids.length ∧ v = .int .i64 i ∧ Ext W wr) (fun v _ => V.kids.length - (intOf v).toNat)
  case atStart => exact ⟨0, Nat.zero_le _, rfl, Ext.refl _⟩
  case round =>
   obtain ⟨i, hi, rfl, hEw⟩ := hrel
   have HW := Lib.hid hEw
   have HX := Lib.hid (HE.out.trans hEw)
   clear hEw
   by_cases hlti : (i : Int) < V.kids.length
   ·have hlen := Hlen.out
    have hi' : i < V.kids.length := by omega
    have hj' : i < U.kids.length := by omega
    have hltj : (i : Int) < U.kids.length := by omega
    have hka : V.kids[i]? = some V.kids[i] := List.getElem?_eq_getElem hi'
    have hkb : U.kids[i]? = some U.kids[i] := List.getElem?_eq_getElem hj'
    have Hga := Lib.hid (Or.inr (a := V.kids[i].sc.nul = true) (Hgk.out V.kids[i] (List.getElem_mem hi')))
    have Hgb := Lib.hid (Or.inr (a := U.kids[i].sc.nul = true) (Hgk'.out U.kids[i] (List.getElem_mem hj')))
    obtain ⟨tb, tx, yA, yc, yA', yc', hB, htb, hty, f0, f1, f2⟩ := HT.out
    rw [Nat.zero_mul, Nat.add_zero] at f0 f1 f2
    subst hB
    have Hty := Lib.hid hty
    obtain ⟨g1, o1, xA, xc, xA1, xc1, xA2, xc2, hA, hb1, hx1, hr1⟩ := kid_at HR.out hka
    generalize V.kids[i] = ka at hka hx1 hr1 Hga
    subst hA
    obtain ⟨g2, o2, zA, zc, zA1, zc1, zA2, zc2, hA, hb2, hx2, hr2⟩ := kid_at HS.out hkb
    generalize U.kids[i] = kb at hkb hx2 hr2 Hgb
    subst hA
    have Hx1 := Lib.hid hx1
    have Hx2 := Lib.hid hx2
    have Hr1 := Lib.hid hr1
    have Hr2 := Lib.hid hr2
    obtain ⟨c0, c1', c2'⟩ := (HB1.out.ext HW.out).c3
    have hltw : w.heap.size + 1 + 1 < wr.heap.size := (HB3.out.ext HW.out).lt
    have hlw0 : w.heap.size < wr.heap.size := by omega
    have hlw1 : w.heap.size + 1 < wr.heap.size := by omega
    have hltb : tb < wr.heap.size := Nat.lt_of_lt_of_le htb HX.out.size
    have j0 : wr.cell? ⟨tb, tx, none⟩ = some (.int .i64 kt.kind) := HX.out.cellS f0
    have j1 : wr.cell? ⟨tb, tx + 1, none⟩ = some (.slice yA kt.kids.length yc) := HX.out.cellS f1
    have j2 : wr.cell? ⟨tb, tx + 2, none⟩ = some (.slice yA' kt.names.length yc') := HX.out.cellS f2
    clear hka hkb hx1 hx2 hr1 hr2 hlen hty f0 f1 f2
    go_wp2_with fail
    generalize hW1 : World.alloc wr _ = W1
    have h1 : Blk W1 wr.heap.size 35 #[.int .i64 kt.kind, .slice yA kt.kids.length yc, .slice yA' kt.names.length yc'] ∧ Ext wr W1 := by
     rw [← hW1]
     exact ⟨Blk.new wr 35 _, (Ext.refl wr).alloc _⟩
    clear hW1 j0 j1 j2 c0 c1' c2' hltb 
    obtain ⟨hB1, hE1⟩ := h1
    have hxd : Ext w W1.drew := (HX.out.trans hE1).drew
    have hcall := Hp.out m m2 m3 W1.drew _ kt _ _ ka kb (TyAt.onx (Onx.of_ext hxd _) _ _ _ Hty.out) (VlAt.onx (Onx.of_ext hxd _) _ _ _ Hx1.out) (VlAt.onx (Onx.of_ext hxd _) _ _ _ Hx2.out) Hkg.out Hga.out Hgb.out
    have hS : W1.drew.cell? ⟨wr.heap.size, 0, none⟩ = some (.int .i64 kt.kind) ∧ W1.drew.cell? ⟨wr.heap.size, 1, none⟩ = some (.slice yA kt.kids.length yc) ∧ W1.drew.cell? ⟨wr.heap.size, 2, none⟩ = some (.slice yA' kt.names.length yc') ∧ W1.drew.cell? ⟨w.heap.size + 1, 10, none⟩ = some (.slice (some ⟨g1, o1, none⟩) V.kids.length c2) ∧ W1.drew.cell? ⟨w.heap.size + 1 + 1, 10, none⟩ = some (.slice (some ⟨g2, o2, none⟩) U.kids.length uc2) ∧ W1.drew.rangeAt g1 (o1 + i * 11) (vcells ka.sc xA xc xA1 ka.keys.length xc1 xA2 ka.kids.length xc2) ∧ W1.drew.rangeAt g2 (o2 + i * 11) (vcells kb.sc zA zc zA1 kb.keys.length zc1 zA2 kb.kids.length zc2) := ⟨(hB1.drew).cell 0, (hB1.drew).cell 1, (hB1.drew).cell 2, (((HB2.out.ext HW.out).ext hE1).ext (Ext.refl W1).drew).cell 10, (((HB3.out.ext HW.out).ext hE1).ext (Ext.refl W1).drew).cell 10, fun j u hu => hxd.cellS (Hr1.out j u hu), fun j u hu => hxd.cellS (Hr2.out j u hu)⟩
    have HSS := Lib.hid hS
    have Hcall := Lib.hid hcall
    have HE1 := Lib.hid hE1
    clear hS hcall hE1 hxd hB1
    refine wp_region_K (fun w' => w'.cell? ⟨wr.heap.size, 0, none⟩ = some (.int .i64 kt.kind) ∧ w'.cell? ⟨wr.heap.size, 1, none⟩ = some (.slice yA kt.kids.length yc) ∧ w'.cell? ⟨wr.heap.size, 2, none⟩ = some (.slice yA' kt.names.length yc') ∧ w'.cell? ⟨w.heap.size + 1, 10, none⟩ = some (.slice (some ⟨g1, o1, none⟩) V.kids.length c2) ∧ w'.cell? ⟨w.heap.size + 1 + 1, 10, none⟩ = some (.slice (some ⟨g2, o2, none⟩) U.kids.length uc2) ∧ w'.rangeAt g1 (o1 + i * 11) (vcells ka.sc xA xc xA1 ka.keys.length xc1 xA2 ka.kids.length xc2) ∧ w'.rangeAt g2 (o2 + i * 11) (vcells kb.sc zA zc zA1 kb.keys.length zc1 zA2 kb.kids.length zc2)) (ix [0, 2, 4, 5, 7, 9, 10]) 13 [false, false, false, false, false, false, false, false, false, false, false, false, false] (by kernel_rfl) rfl rfl ?_
    refine fV 1 (v := ?v14Lx1) rfl (by rfl) ?y14Lx1 ?_
    case y14Lx1 => intro w; go_simp; with_reducible rfl
    simp only [aP, aN, aT, aZ, aS]
    refine fV 3 (v := ?v14Lx3) rfl (by rfl) ?y14Lx3 ?_
    case y14Lx3 => intro w; go_simp; with_reducible rfl
    simp only [aP, aN, aT, aZ, aS]
    refine fV 6 (v := ?v14Lx6) rfl (by rfl) ?y14Lx6 ?_
    case y14Lx6 => intro w; go_simp; with_reducible rfl
    simp only [aP, aN, aT, aZ, aS]
    refine fV 8 (v := ?v14Lx8) rfl (by rfl) ?y14Lx8 ?_
    case y14Lx8 => intro w; go_simp; with_reducible rfl
    simp only [aP, aN, aT, aZ, aS]
    refine tV 0 (ix [11, 12]) (v := ?v14Lx0) rfl HSS.out (by rfl) ?y14Lx0 ?_
    case y14Lx0 => rintro w ⟨s1, s2, s3, s4, s5, s6, s7⟩; go_simp; with_reducible rfl
    simp only [aP, aN, aT, aZ, aS]
    refine tV 2 (ix [4, 5, 11, 12]) (v := ?v14Lx2) rfl HSS.out (by rfl) ?y14Lx2 ?_
    case y14Lx2 => rintro w ⟨s1, s2, s3, s4, s5, s6, s7⟩; go_simp; with_reducible rfl
    simp only [aP, aN, aT, aZ, aS]
    refine tV 4 (ix [5, 11, 12]) (v := ?v14Lx4) rfl HSS.out (by rfl) ?y14Lx4 ?_
    case y14Lx4 => rintro w ⟨s1, s2, s3, s4, s5, s6, s7⟩; go_simp; with_reducible rfl
    simp only [aP, aN, aT, aZ, aS]
    refine tG 5 (ix [11, 12]) rfl HSS.out (yieldsIf_load_mid (by rfl) 39 _ rfl g1 (o1 + i * 11) (by rfl) (vcells ka.sc xA xc xA1 ka.keys.length xc1 xA2 ka.kids.length xc2) _ (fun w' h => h.2.2.2.2.2.1) Tryz.underlying39 rfl hi39) ?_
    simp only [aP, aN, aT, aZ, aS]
    refine tV 7 (rg 9 12) (v := ?v14Lx7) rfl HSS.out (by rfl) ?y14Lx7 ?_
    case y14Lx7 => rintro w ⟨s1, s2, s3, s4, s5, s6, s7⟩; go_simp; with_reducible rfl
    simp only [aP, aN, aT, aZ, aS]
    refine tV 9 (ix [10, 11, 12]) (v := ?v14Lx9) rfl HSS.out (by rfl) ?y14Lx9 ?_
    case y14Lx9 => rintro w ⟨s1, s2, s3, s4, s5, s6, s7⟩; go_simp; with_reducible rfl
    simp only [aP, aN, aT, aZ, aS]
    refine tG 10 (ix [11, 12]) rfl HSS.out (yieldsIf_load_mid (by rfl) 39 _ rfl g2 (o2 + i * 11) (by rfl) (vcells kb.sc zA zc zA1 kb.keys.length zc1 zA2 kb.kids.length zc2) _ (fun w' h => h.2.2.2.2.2.2) Tryz.underlying39 rfl hi39) ?_
    simp only [aP, aN, aT, aZ, aS]
    refine wpAnyK_oneg 11 (by kernel_rfl) rfl (by rfl) (fun K' hK => ?_)
    go_simp
    refine Hcall.out.mono ?_
    rintro e w2 ⟨b2, rfl, -, he2⟩
    refine hK.out _ _ (fun h => absurd h (by decide)) ?_
    clear hK K'
    simp only [aP, aN, aT, aZ, aS]
    refine fV 12 (v := ?v14Lx12) rfl (by rfl) ?y14Lx12 ?_
    case y14Lx12 => intro w; go_simp; with_reducible rfl
    simp only [aP, aN, aT, aZ, aS]
    refine wpAnyK_done (by kernel_rfl) ?_ _
    have He2 := Lib.hid (HE1.out.drew.trans he2)
    clear he2
    cases b2 with
    |false =>
     go_wp2_with fail
     go_ret
     exact AnsB.mk trivial (HX.out.trans He2.out)
    |true =>
     go_wp2_with fail
     go_roundw
     case rel => exact ⟨i + 1, by omega, by go_num, HW.out.trans He2.out⟩
     case measure => simp [intOf]; omega
   ·go_wp2_with fail
    go_ret
    exact AnsB.mk trivial HX.out
 ·have hq : ((V.kids.length : Int) != U.kids.length) = true := by simp; omega
  clear hlen
  go_wp2_with fail
  go_ret
  exact AnsB.mk trivial HE.out
set_option maxRecDepth 100000 in
set_option maxHeartbeats 16000000 in
theorem same_seq34 (n : Nat) (hn5 : n + 1 ≤ 5) (hp : SameP n) (m m2 m3 : Nat) (w : World) (tv : Value) (T : Ty) (vs us : List Value) (V U : Vl) (hT : TyAt (fun _ => False) m w tv T) (hV : VlAt (fun _ => False) m2 w vs V) (hU : VlAt (fun _ => False) m3 w us U) (hG : Good (n + 1) T) (hn : V.sc.nul = false) (hn' : U.sc.nul = false) (hg : GoodV (n + 1) T V) (hg' : GoodV (n + 1) T U) (h : T.kind = 34) :
  Calls Tryz.prog 45 #[tv, .agg vs.toArray, .agg us.toArray] w (AnsB (fun _ => True) w) := by
 obtain ⟨B, bc, B', bc', rfl⟩ := hT.form
 cases m2 with
 |zero => exact hV.elim
 |succ m2 =>
 cases m3 with
 |zero => exact hU.elim
 |succ m3 =>
 cases m with
 |zero => exact hT.elim
 |succ m =>
 have hl1 : T.kids.length = 1 := by
  have := hG.2
  unfold Shape at this
  omega
 have hkt : T.kids[0]? = some T.kids[0] := List.getElem?_eq_getElem (by omega)
 have hkg : Good n T.kids[0] := hG.1 _ (List.getElem_mem _)
 generalize T.kids[0] = kt at hkt hkg
 have HT := Lib.hid (tkid_at hT hkt)
 have gk : ∀ X : Vl, GoodV (n + 1) T X → ∀ k ∈ X.kids, GoodV n kt k := fun X hg => by
  obtain ⟨-, h20, hg⟩ := hg
  rcases hg with ⟨h', _⟩ | ⟨_, _, t, ht, hall⟩ | ⟨h', _⟩ | ⟨h', _⟩
  ·omega
  ·rw [hkt] at ht
   injection ht with ht
   subst ht
   exact hall
  ·omega
  ·omega
 have Hgk := Lib.hid (gk V hg)
 have Hgk' := Lib.hid (gk U hg')
 have Hkg := Lib.hid hkg
 have hpos : 0 < T.kids.length := by omega
 clear gk hkt hkg hl1
 have HT0 := Lib.hid hT
 have HV0 := Lib.hid hV
 have HU0 := Lib.hid hU
 obtain ⟨A, c, A1, c1, A2, c2, rfl, q1, q2, q3, q4, q5, q6, hs, hd, hrow1, hrow⟩ := hV
 obtain ⟨uA, uc, uA1, uc1, uA2, uc2, rfl, p1, p2, p3, p4, p5, p6, hs', hd', hrow1', hrow'⟩ := hU
 have HR := Lib.hid hrow
 have HR1 := Lib.hid hrow1
 have HS := Lib.hid hrow'
 have HS1 := Lib.hid hrow1'
 have Hp := Lib.hid hp
 clear hT hs hs' hG hd hd' hg hg' hrow hrow1 hrow' hrow1' hp
 simp only [vcells] at HV0 HU0 ⊢
 rw [hn] at HV0 ⊢
 rw [hn'] at HU0 ⊢
 unfold maxLen at q2 q4 q6 p2 p4 p6
 go_enter Tryz.func45, Tryz.ntmps45
 have t33 : (T.kind != 33) = true := by simp [h]
 have t49 : (T.kind == 49) = false := by simp [h]
 have t48 : (T.kind == 48) = false := by simp [h]
 have tk0 : ((T.kids.length : Int) == 0) = false := beq_eq_false_iff_ne.2 (by omega)
 clear h
 go_upto_region 1 with fail
 generalize hW : World.alloc (World.alloc (World.alloc w _) _) _ = W
 have h0 : Blk W w.heap.size 35 #[.int .i64 T.kind, .slice B T.kids.length bc, .slice B' T.names.length bc'] ∧ Blk W (w.heap.size + 1) 39 #[.bool false, .int .i64 V.sc.n, .float .f64 V.sc.f, .string V.sc.text, .slice A V.sc.data.length c, .int .i64 V.sc.scale, .int .i64 V.sc.months, .int .i64 V.sc.days, .int .i64 V.sc.nanos, .slice A1 V.keys.length c1, .slice A2 V.kids.length c2] ∧ Blk W (w.heap.size + 1 + 1) 39 #[.bool false, .int .i64 U.sc.n, .float .f64 U.sc.f, .string U.sc.text, .slice uA U.sc.data.length uc, .int .i64 U.sc.scale, .int .i64 U.sc.months, .int .i64 U.sc.days, .int .i64 U.sc.nanos, .slice uA1 U.keys.length uc1, .slice uA2 U.kids.length uc2] ∧ Ext w W := by
  rw [← hW]
  exact ⟨((Blk.new w 35 _).alloc _).alloc _, (Blk.new' _ _ 39 _ (by simp)).alloc _, Blk.new' _ _ 39 _ (by simp), (((Ext.refl w).alloc _).alloc _).alloc _⟩
 clear hW
 obtain ⟨hb1, hb2, hb3, hE⟩ := h0
 have hlt := hb3.lt
 have HE := Lib.hid hE
 have HB1 := Lib.hid hb1
 have HB2 := Lib.hid hb2
 have HB3 := Lib.hid hb3
 clear hb1 hb2 hb3 hE
 obtain ⟨b0, b1, b2⟩ := HB1.out.c3
 obtain ⟨d0, d1, d2, d3, d4, d5, d6, d7, d8, d9, d10⟩ := HB2.out.c11
 obtain ⟨e0, e1, e2, e3, e4, e5, e6, e7, e8, e9, e10⟩ := HB3.out.c11
 by_cases hlen : (V.kids.length : Int) = U.kids.length
 ·have hq : ((V.kids.length : Int) != U.kids.length) = false := by simp [hlen]
  have Hlen := Lib.hid hlen
  clear hlen
  go_wp2_with fail
  clear d0 d1 d2 d3 d4 d5 d6 d7 d8 d9 d10 e0 e1 e2 e3 e4 e5 e6 e7 e8 e9 e10 b0 b1 b2
  go_loopw [49] (fun v wr => ∃ i : Nat, i ≤ V.kids.length ∧ v = .int .i64 i ∧ Ext W wr) (fun v _ => V.kids.length - (intOf v).toNat)
  case atStart => exact ⟨0, Nat.zero_le _, rfl, Ext.refl _⟩
  case round =>
   obtain ⟨i, hi, rfl, hEw⟩ := hrel
   have HW := Lib.hid hEw
   have HX := Lib.hid (HE.out.trans hEw)
   clear hEw
   by_cases hlti : (i : Int) < V.kids.length
   ·have hlen := Hlen.out
    have hi' : i < V.kids.length := by omega
    have hj' : i < U.kids.length := by omega
    have hltj : (i : Int) < U.kids.length := by omega
    have hka : V.kids[i]? = some V.kids[i] := List.getElem?_eq_getElem hi'
    have hkb : U.kids[i]? = some U.kids[i] := List.getElem?_eq_getElem hj'
    have Hga := Lib.hid (Or.inr (a := V.kids[i].sc.nul = true) (Hgk.out V.kids[i] (List.getElem_mem hi')))
    have Hgb := Lib.hid (Or.inr (a := U.kids[i].sc.nul = true) (Hgk'.out U.kids[i] (List.getElem_mem hj')))
    obtain ⟨tb, tx, yA, yc, yA', yc', hB, htb, hty, f0, f1, f2⟩ := HT.out
    rw [Nat.zero_mul, Nat.add_zero] at f0 f1 f2
    subst hB
    have Hty := Lib.hid hty
    obtain ⟨g1, o1, xA, xc, xA1, xc1, xA2, xc2, hA, hb1, hx1, hr1⟩ := kid_at HR.out hka
    generalize V.kids[i] = ka at hka hx1 hr1 Hga
    subst hA
    obtain ⟨g2, o2, zA, zc, zA1, zc1, zA2, zc2, hA, hb2, hx2, hr2⟩ := kid_at HS.out hkb
    generalize U.kids[i] = kb at hkb hx2 hr2 Hgb
    subst hA
    have Hx1 := Lib.hid hx1
    have Hx2 := Lib.hid hx2
    have Hr1 := Lib.hid hr1
    have Hr2 := Lib.hid hr2
    obtain ⟨c0, c1', c2'⟩ := (HB1.out.ext HW.out).c3
    have hltw : w.heap.size + 1 + 1 < wr.heap.size := (HB3.out.ext HW.out).lt
    have hlw0 : w.heap.size < wr.heap.size := by omega
    have hlw1 : w.heap.size + 1 < wr.heap.size := by omega
    have hltb : tb < wr.heap.size := Nat.lt_of_lt_of_le htb HX.out.size
    have j0 : wr.cell? ⟨tb, tx, none⟩ = some (.int .i64 kt.kind) := HX.out.cellS f0
    have j1 : wr.cell? ⟨tb, tx + 1, none⟩ = some (.slice yA kt.kids.length yc) := HX.out.cellS f1
    have j2 : wr.cell? ⟨tb, tx + 2, none⟩ = some (.slice yA' kt.names.length yc') := HX.out.cellS f2
    clear hka hkb hx1 hx2 hr1 hr2 hlen hty f0 f1 f2
    go_wp2_with fail
    generalize hW1 : World.alloc wr _ = W1
    have h1 : Blk W1 wr.heap.size 35 #[.int .i64 kt.kind, .slice yA kt.kids.length yc, .slice yA' kt.names.length yc'] ∧ Ext wr W1 := by
     rw [← hW1]
     exact ⟨Blk.new wr 35 _, (Ext.refl wr).alloc _⟩
    clear hW1 j0 j1 j2 c0 c1' c2' hltb 
    obtain ⟨hB1, hE1⟩ := h1
    have hxd : Ext w W1.drew := (HX.out.trans hE1).drew
    have hcall := Hp.out m m2 m3 W1.drew _ kt _ _ ka kb (TyAt.onx (Onx.of_ext hxd _) _ _ _ Hty.out) (VlAt.onx (Onx.of_ext hxd _) _ _ _ Hx1.out) (VlAt.onx (Onx.of_ext hxd _) _ _ _ Hx2.out) Hkg.out Hga.out Hgb.out
    have hS : W1.drew.cell? ⟨wr.heap.size, 0, none⟩ = some (.int .i64 kt.kind) ∧ W1.drew.cell? ⟨wr.heap.size, 1, none⟩ = some (.slice yA kt.kids.length yc) ∧ W1.drew.cell? ⟨wr.heap.size, 2, none⟩ = some (.slice yA' kt.names.length yc') ∧ W1.drew.cell? ⟨w.heap.size + 1, 10, none⟩ = some (.slice (some ⟨g1, o1, none⟩) V.kids.length c2) ∧ W1.drew.cell? ⟨w.heap.size + 1 + 1, 10, none⟩ = some (.slice (some ⟨g2, o2, none⟩) U.kids.length uc2) ∧ W1.drew.rangeAt g1 (o1 + i * 11) (vcells ka.sc xA xc xA1 ka.keys.length xc1 xA2 ka.kids.length xc2) ∧ W1.drew.rangeAt g2 (o2 + i * 11) (vcells kb.sc zA zc zA1 kb.keys.length zc1 zA2 kb.kids.length zc2) := ⟨(hB1.drew).cell 0, (hB1.drew).cell 1, (hB1.drew).cell 2, (((HB2.out.ext HW.out).ext hE1).ext (Ext.refl W1).drew).cell 10, (((HB3.out.ext HW.out).ext hE1).ext (Ext.refl W1).drew).cell 10, fun j u hu => hxd.cellS (Hr1.out j u hu), fun j u hu => hxd.cellS (Hr2.out j u hu)⟩
    have HSS := Lib.hid hS
    have Hcall := Lib.hid hcall
    have HE1 := Lib.hid hE1
    clear hS hcall hE1 hxd hB1
    refine wp_region_K (fun w' => w'.cell? ⟨wr.heap.size, 0, none⟩ = some (.int .i64 kt.kind) ∧ w'.cell? ⟨wr.heap.size, 1, none⟩ = some (.slice yA kt.kids.length yc) ∧ w'.cell? ⟨wr.heap.size, 2, none⟩ = some (.slice yA' kt.names.length yc') ∧ w'.cell? ⟨w.heap.size + 1, 10, none⟩ = some (.slice (some ⟨g1, o1, none⟩) V.kids.length c2) ∧ w'.cell? ⟨w.heap.size + 1 + 1, 10, none⟩ = some (.slice (some ⟨g2, o2, none⟩) U.kids.length uc2) ∧ w'.rangeAt g1 (o1 + i * 11) (vcells ka.sc xA xc xA1 ka.keys.length xc1 xA2 ka.kids.length xc2) ∧ w'.rangeAt g2 (o2 + i * 11) (vcells kb.sc zA zc zA1 kb.keys.length zc1 zA2 kb.kids.length zc2)) (ix [0, 2, 4, 5, 7, 9, 10]) 13 [false, false, false, false, false, false, false, false, false, false, false, false, false] (by kernel_rfl) rfl rfl ?_
    refine fV 1 (v := ?v14Lx1) rfl (by rfl) ?y14Lx1 ?_
    case y14Lx1 => intro w; go_simp; with_reducible rfl
    simp only [aP, aN, aT, aZ, aS]
    refine fV 3 (v := ?v14Lx3) rfl (by rfl) ?y14Lx3 ?_
    case y14Lx3 => intro w; go_simp; with_reducible rfl
    simp only [aP, aN, aT, aZ, aS]
    refine fV 6 (v := ?v14Lx6) rfl (by rfl) ?y14Lx6 ?_
    case y14Lx6 => intro w; go_simp; with_reducible rfl
    simp only [aP, aN, aT, aZ, aS]
    refine fV 8 (v := ?v14Lx8) rfl (by rfl) ?y14Lx8 ?_
    case y14Lx8 => intro w; go_simp; with_reducible rfl
    simp only [aP, aN, aT, aZ, aS]
    refine tV 0 (ix [11, 12]) (v := ?v14Lx0) rfl HSS.out (by rfl) ?y14Lx0 ?_
    case y14Lx0 => rintro w ⟨s1, s2, s3, s4, s5, s6, s7⟩; go_simp; with_reducible rfl
    simp only [aP, aN, aT, aZ, aS]
    refine tV 2 (ix [4, 5, 11, 12]) (v := ?v14Lx2) rfl HSS.out (by rfl) ?y14Lx2 ?_
    case y14Lx2 => rintro w ⟨s1, s2, s3, s4, s5, s6, s7⟩; go_simp; with_reducible rfl
    simp only [aP, aN, aT, aZ, aS]
    refine tV 4 (ix [5, 11, 12]) (v := ?v14Lx4) rfl HSS.out (by rfl) ?y14Lx4 ?_
    case y14Lx4 => rintro w ⟨s1, s2, s3, s4, s5, s6, s7⟩; go_simp; with_reducible rfl
    simp only [aP, aN, aT, aZ, aS]
    refine tG 5 (ix [11, 12]) rfl HSS.out (yieldsIf_load_mid (by rfl) 39 _ rfl g1 (o1 + i * 11) (by rfl) (vcells ka.sc xA xc xA1 ka.keys.length xc1 xA2 ka.kids.length xc2) _ (fun w' h => h.2.2.2.2.2.1) Tryz.underlying39 rfl hi39) ?_
    simp only [aP, aN, aT, aZ, aS]
    refine tV 7 (rg 9 12) (v := ?v14Lx7) rfl HSS.out (by rfl) ?y14Lx7 ?_
    case y14Lx7 => rintro w ⟨s1, s2, s3, s4, s5, s6, s7⟩; go_simp; with_reducible rfl
    simp only [aP, aN, aT, aZ, aS]
    refine tV 9 (ix [10, 11, 12]) (v := ?v14Lx9) rfl HSS.out (by rfl) ?y14Lx9 ?_
    case y14Lx9 => rintro w ⟨s1, s2, s3, s4, s5, s6, s7⟩; go_simp; with_reducible rfl
    simp only [aP, aN, aT, aZ, aS]
    refine tG 10 (ix [11, 12]) rfl HSS.out (yieldsIf_load_mid (by rfl) 39 _ rfl g2 (o2 + i * 11) (by rfl) (vcells kb.sc zA zc zA1 kb.keys.length zc1 zA2 kb.kids.length zc2) _ (fun w' h => h.2.2.2.2.2.2) Tryz.underlying39 rfl hi39) ?_
    simp only [aP, aN, aT, aZ, aS]
    refine wpAnyK_oneg 11 (by kernel_rfl) rfl (by rfl) (fun K' hK => ?_)
    go_simp
    refine Hcall.out.mono ?_
    rintro e w2 ⟨b2, rfl, -, he2⟩
    refine hK.out _ _ (fun h => absurd h (by decide)) ?_
    clear hK K'
    simp only [aP, aN, aT, aZ, aS]
    refine fV 12 (v := ?v14Lx12) rfl (by rfl) ?y14Lx12 ?_
    case y14Lx12 => intro w; go_simp; with_reducible rfl
    simp only [aP, aN, aT, aZ, aS]
    refine wpAnyK_done (by kernel_rfl) ?_ _
    have He2 := Lib.hid (HE1.out.drew.trans he2)
    clear he2
    cases b2 with
    |false =>
     go_wp2_with fail
     go_ret
     exact AnsB.mk trivial (HX.out.trans He2.out)
    |true =>
     go_wp2_with fail
     go_roundw
     case rel => exact ⟨i + 1, by omega, by go_num, HW.out.trans He2.out⟩
     case measure => simp [intOf]; omega
   ·go_wp2_with fail
    go_ret
    exact AnsB.mk trivial HX.out
 ·have hq : ((V.kids.length : Int) != U.kids.length) = true := by simp; omega
  clear hlen
  go_wp2_with fail
  go_ret
  exact AnsB.mk trivial HE.out
set_option maxRecDepth 100000 in
set_option maxHeartbeats 16000000 in
theorem same_seq48 (n : Nat) (hn5 : n + 1 ≤ 5) (hp : SameP n) (m m2 m3 : Nat) (w : World) (tv : Value) (T : Ty) (vs us : List Value) (V U : Vl) (hT : TyAt (fun _ => False) m w tv T) (hV : VlAt (fun _ => False) m2 w vs V) (hU : VlAt (fun _ => False) m3 w us U) (hG : Good (n + 1) T) (hn : V.sc.nul = false) (hn' : U.sc.nul = false) (hg : GoodV (n + 1) T V) (hg' : GoodV (n + 1) T U) (h : T.kind = 48) :
  Calls Tryz.prog 45 #[tv, .agg vs.toArray, .agg us.toArray] w (AnsB (fun _ => True) w) := by
 obtain ⟨B, bc, B', bc', rfl⟩ := hT.form
 cases m2 with
 |zero => exact hV.elim
 |succ m2 =>
 cases m3 with
 |zero => exact hU.elim
 |succ m3 =>
 cases m with
 |zero => exact hT.elim
 |succ m =>
 have HTK : Hid (∀ i t, T.kids[i]? = some t → _) := Lib.hid (fun i t ht => tkid_at hT ht)
 have HGK := Lib.hid (fun t (ht : t ∈ T.kids) => hG.1 t ht)
 have hpos : 0 < T.kids.length := by
  have := hG.2
  unfold Shape at this
  omega
 have gk : ∀ X : Vl, GoodV (n + 1) T X → X.kids.length = T.kids.length ∧ ∀ (i : Nat) (t : Ty) (k : Vl), T.kids[i]? = some t → X.kids[i]? = some k → k.sc.nul = true ∨ GoodV n t k := fun X hg => by
  obtain ⟨-, h20, hg⟩ := hg
  rcases hg with ⟨h', _⟩ | ⟨h', _⟩ | ⟨h', _⟩ | ⟨_, _, hl, hall⟩
  ·omega
  ·omega
  ·omega
  ·refine ⟨hl, fun i t k ht hk => ?_⟩
   rcases hall i t k ht hk with hg | ⟨_, hn, _⟩
   ·exact .inr hg
   ·exact .inl hn
 obtain ⟨hkl, hgk⟩ := gk V hg
 obtain ⟨hkl', hgk'⟩ := gk U hg'
 have Hgk := Lib.hid hgk
 have Hgk' := Lib.hid hgk'
 have Hkl := Lib.hid hkl
 have Hkl' := Lib.hid hkl'
 clear gk hgk hgk' hkl hkl'
 have HT0 := Lib.hid hT
 have HV0 := Lib.hid hV
 have HU0 := Lib.hid hU
 obtain ⟨A, c, A1, c1, A2, c2, rfl, q1, q2, q3, q4, q5, q6, hs, hd, hrow1, hrow⟩ := hV
 obtain ⟨uA, uc, uA1, uc1, uA2, uc2, rfl, p1, p2, p3, p4, p5, p6, hs', hd', hrow1', hrow'⟩ := hU
 have HR := Lib.hid hrow
 have HR1 := Lib.hid hrow1
 have HS := Lib.hid hrow'
 have HS1 := Lib.hid hrow1'
 have Hp := Lib.hid hp
 clear hT hs hs' hG hd hd' hg hg' hrow hrow1 hrow' hrow1' hp
 simp only [vcells] at HV0 HU0 ⊢
 rw [hn] at HV0 ⊢
 rw [hn'] at HU0 ⊢
 unfold maxLen at q2 q4 q6 p2 p4 p6
 go_enter Tryz.func45, Tryz.ntmps45
 have t33 : (T.kind != 33) = true := by simp [h]
 have t49 : (T.kind == 49) = false := by simp [h]
 have t48 : (T.kind == 48) = true := by simp [h]
 have tk0 : ((T.kids.length : Int) == 0) = false := beq_eq_false_iff_ne.2 (by omega)
 clear h
 go_upto_region 1 with fail
 generalize hW : World.alloc (World.alloc (World.alloc w _) _) _ = W
 have h0 : Blk W w.heap.size 35 #[.int .i64 T.kind, .slice B T.kids.length bc, .slice B' T.names.length bc'] ∧ Blk W (w.heap.size + 1) 39 #[.bool false, .int .i64 V.sc.n, .float .f64 V.sc.f, .string V.sc.text, .slice A V.sc.data.length c, .int .i64 V.sc.scale, .int .i64 V.sc.months, .int .i64 V.sc.days, .int .i64 V.sc.nanos, .slice A1 V.keys.length c1, .slice A2 V.kids.length c2] ∧ Blk W (w.heap.size + 1 + 1) 39 #[.bool false, .int .i64 U.sc.n, .float .f64 U.sc.f, .string U.sc.text, .slice uA U.sc.data.length uc, .int .i64 U.sc.scale, .int .i64 U.sc.months, .int .i64 U.sc.days, .int .i64 U.sc.nanos, .slice uA1 U.keys.length uc1, .slice uA2 U.kids.length uc2] ∧ Ext w W := by
  rw [← hW]
  exact ⟨((Blk.new w 35 _).alloc _).alloc _, (Blk.new' _ _ 39 _ (by simp)).alloc _, Blk.new' _ _ 39 _ (by simp), (((Ext.refl w).alloc _).alloc _).alloc _⟩
 clear hW
 obtain ⟨hb1, hb2, hb3, hE⟩ := h0
 have hlt := hb3.lt
 have HE := Lib.hid hE
 have HB1 := Lib.hid hb1
 have HB2 := Lib.hid hb2
 have HB3 := Lib.hid hb3
 clear hb1 hb2 hb3 hE
 obtain ⟨b0, b1, b2⟩ := HB1.out.c3
 obtain ⟨d0, d1, d2, d3, d4, d5, d6, d7, d8, d9, d10⟩ := HB2.out.c11
 obtain ⟨e0, e1, e2, e3, e4, e5, e6, e7, e8, e9, e10⟩ := HB3.out.c11
 by_cases hlen : (V.kids.length : Int) = U.kids.length
 ·have hq : ((V.kids.length : Int) != U.kids.length) = false := by simp [hlen]
  have Hlen := Lib.hid hlen
  clear hlen
  go_wp2_with fail
  clear d0 d1 d2 d3 d4 d5 d6 d7 d8 d9 d10 e0 e1 e2 e3 e4 e5 e6 e7 e8 e9 e10 b0 b1 b2
  go_loopw [49] (fun v wr => ∃ i : Nat, i ≤ V.kids.length ∧ v = .int .i64 i ∧ Ext W wr) (fun v _ => V.kids.length - (intOf v).toNat)
  case atStart => exact ⟨0, Nat.zero_le _, rfl, Ext.refl _⟩
  case round =>
   obtain ⟨i, hi, rfl, hEw⟩ := hrel
   have HW := Lib.hid hEw
   have HX := Lib.hid (HE.out.trans hEw)
   clear hEw
   by_cases hlti : (i : Int) < V.kids.length
   ·have hlen := Hlen.out
    have hi' : i < V.kids.length := by omega
    have hj' : i < U.kids.length := by omega
    have hltj : (i : Int) < U.kids.length := by omega
    have hka : V.kids[i]? = some V.kids[i] := List.getElem?_eq_getElem hi'
    have hkb : U.kids[i]? = some U.kids[i] := List.getElem?_eq_getElem hj'
    have hlt' : i < T.kids.length := by have := Hkl.out; omega
    have hltt : (i : Int) < T.kids.length := by omega
    have hkt : T.kids[i]? = some T.kids[i] := List.getElem?_eq_getElem hlt'
    have Hga := Lib.hid (Hgk.out i _ _ hkt hka)
    have Hgb := Lib.hid (Hgk'.out i _ _ hkt hkb)
    have Hkg := Lib.hid (HGK.out _ (List.getElem_mem hlt'))
    have ht0 : T.kids[0]? = some T.kids[0] := List.getElem?_eq_getElem hpos
    obtain ⟨tb0, tx0, y0A, y0c, y0A', y0c', hB0, -, hty0, r0, r1, r2⟩ := HTK.out 0 _ ht0
    obtain ⟨tb, tx, yA, yc, yA', yc', hB, htb, hty, f0, f1, f2⟩ := HTK.out i _ hkt
    generalize T.kids[i] = kt at hkt hty f0 f1 f2 Hga Hgb Hkg
    generalize T.kids[0] = kt0 at ht0 hty0 r0 r1 r2
    rw [hB] at hB0
    injection hB0 with hB0
    injection hB0 with hB1 hB2
    subst hB1
    subst hB2
    subst hB
    have Hty := Lib.hid hty
    rw [Nat.zero_mul, Nat.add_zero] at r0 r1 r2
    clear hkt ht0 hty0
    obtain ⟨g1, o1, xA, xc, xA1, xc1, xA2, xc2, hA, hb1, hx1, hr1⟩ := kid_at HR.out hka
    generalize V.kids[i] = ka at hka hx1 hr1 Hga
    subst hA
    obtain ⟨g2, o2, zA, zc, zA1, zc1, zA2, zc2, hA, hb2, hx2, hr2⟩ := kid_at HS.out hkb
    generalize U.kids[i] = kb at hkb hx2 hr2 Hgb
    subst hA
    have Hx1 := Lib.hid hx1
    have Hx2 := Lib.hid hx2
    have Hr1 := Lib.hid hr1
    have Hr2 := Lib.hid hr2
    obtain ⟨c0, c1', c2'⟩ := (HB1.out.ext HW.out).c3
    have hltw : w.heap.size + 1 + 1 < wr.heap.size := (HB3.out.ext HW.out).lt
    have hlw0 : w.heap.size < wr.heap.size := by omega
    have hlw1 : w.heap.size + 1 < wr.heap.size := by omega
    have hltb : tb < wr.heap.size := Nat.lt_of_lt_of_le htb HX.out.size
    have j0 : wr.cell? ⟨tb, tx + i * 3, none⟩ = some (.int .i64 kt.kind) := HX.out.cellS f0
    have j1 : wr.cell? ⟨tb, tx + i * 3 + 1, none⟩ = some (.slice yA kt.kids.length yc) := HX.out.cellS f1
    have j2 : wr.cell? ⟨tb, tx + i * 3 + 2, none⟩ = some (.slice yA' kt.names.length yc') := HX.out.cellS f2
    have l0 : wr.cell? ⟨tb, tx, none⟩ = some (.int .i64 kt0.kind) := HX.out.cellS r0
    have l1 : wr.cell? ⟨tb, tx + 1, none⟩ = some (.slice y0A kt0.kids.length y0c) := HX.out.cellS r1
    have l2 : wr.cell? ⟨tb, tx + 2, none⟩ = some (.slice y0A' kt0.names.length y0c') := HX.out.cellS r2
    clear r0 r1 r2
    clear hka hkb hx1 hx2 hr1 hr2 hlen hty f0 f1 f2
    go_wp2_with fail
    generalize hW1 : World.alloc wr _ = W1
    have h1 : Blk W1 wr.heap.size 35 #[.int .i64 kt.kind, .slice yA kt.kids.length yc, .slice yA' kt.names.length yc'] ∧ Ext wr W1 := by
     rw [← hW1]
     exact ⟨Blk.new wr 35 _, (Ext.refl wr).alloc _⟩
    clear hW1 j0 j1 j2 c0 c1' c2' hltb l0 l1 l2
    obtain ⟨hB1, hE1⟩ := h1
    have hxd : Ext w W1.drew := (HX.out.trans hE1).drew
    have hcall := Hp.out m m2 m3 W1.drew _ kt _ _ ka kb (TyAt.onx (Onx.of_ext hxd _) _ _ _ Hty.out) (VlAt.onx (Onx.of_ext hxd _) _ _ _ Hx1.out) (VlAt.onx (Onx.of_ext hxd _) _ _ _ Hx2.out) Hkg.out Hga.out Hgb.out
    have hS : W1.drew.cell? ⟨wr.heap.size, 0, none⟩ = some (.int .i64 kt.kind) ∧ W1.drew.cell? ⟨wr.heap.size, 1, none⟩ = some (.slice yA kt.kids.length yc) ∧ W1.drew.cell? ⟨wr.heap.size, 2, none⟩ = some (.slice yA' kt.names.length yc') ∧ W1.drew.cell? ⟨w.heap.size + 1, 10, none⟩ = some (.slice (some ⟨g1, o1, none⟩) V.kids.length c2) ∧ W1.drew.cell? ⟨w.heap.size + 1 + 1, 10, none⟩ = some (.slice (some ⟨g2, o2, none⟩) U.kids.length uc2) ∧ W1.drew.rangeAt g1 (o1 + i * 11) (vcells ka.sc xA xc xA1 ka.keys.length xc1 xA2 ka.kids.length xc2) ∧ W1.drew.rangeAt g2 (o2 + i * 11) (vcells kb.sc zA zc zA1 kb.keys.length zc1 zA2 kb.kids.length zc2) := ⟨(hB1.drew).cell 0, (hB1.drew).cell 1, (hB1.drew).cell 2, (((HB2.out.ext HW.out).ext hE1).ext (Ext.refl W1).drew).cell 10, (((HB3.out.ext HW.out).ext hE1).ext (Ext.refl W1).drew).cell 10, fun j u hu => hxd.cellS (Hr1.out j u hu), fun j u hu => hxd.cellS (Hr2.out j u hu)⟩
    have HSS := Lib.hid hS
    have Hcall := Lib.hid hcall
    have HE1 := Lib.hid hE1
    clear hS hcall hE1 hxd hB1
    refine wp_region_K (fun w' => w'.cell? ⟨wr.heap.size, 0, none⟩ = some (.int .i64 kt.kind) ∧ w'.cell? ⟨wr.heap.size, 1, none⟩ = some (.slice yA kt.kids.length yc) ∧ w'.cell? ⟨wr.heap.size, 2, none⟩ = some (.slice yA' kt.names.length yc') ∧ w'.cell? ⟨w.heap.size + 1, 10, none⟩ = some (.slice (some ⟨g1, o1, none⟩) V.kids.length c2) ∧ w'.cell? ⟨w.heap.size + 1 + 1, 10, none⟩ = some (.slice (some ⟨g2, o2, none⟩) U.kids.length uc2) ∧ w'.rangeAt g1 (o1 + i * 11) (vcells ka.sc xA xc xA1 ka.keys.length xc1 xA2 ka.kids.length xc2) ∧ w'.rangeAt g2 (o2 + i * 11) (vcells kb.sc zA zc zA1 kb.keys.length zc1 zA2 kb.kids.length zc2)) (ix [0, 2, 4, 5, 7, 9, 10]) 13 [false, false, false, false, false, false, false, false, false, false, false, false, false] (by kernel_rfl) rfl rfl ?_
    refine fV 1 (v := ?v14Lx1) rfl (by rfl) ?y14Lx1 ?_
    case y14Lx1 => intro w; go_simp; with_reducible rfl
    simp only [aP, aN, aT, aZ, aS]
    refine fV 3 (v := ?v14Lx3) rfl (by rfl) ?y14Lx3 ?_
    case y14Lx3 => intro w; go_simp; with_reducible rfl
    simp only [aP, aN, aT, aZ, aS]
    refine fV 6 (v := ?v14Lx6) rfl (by rfl) ?y14Lx6 ?_
    case y14Lx6 => intro w; go_simp; with_reducible rfl
    simp only [aP, aN, aT, aZ, aS]
    refine fV 8 (v := ?v14Lx8) rfl (by rfl) ?y14Lx8 ?_
    case y14Lx8 => intro w; go_simp; with_reducible rfl
    simp only [aP, aN, aT, aZ, aS]
    refine tV 0 (ix [11, 12]) (v := ?v14Lx0) rfl HSS.out (by rfl) ?y14Lx0 ?_
    case y14Lx0 => rintro w ⟨s1, s2, s3, s4, s5, s6, s7⟩; go_simp; with_reducible rfl
    simp only [aP, aN, aT, aZ, aS]
    refine tV 2 (ix [4, 5, 11, 12]) (v := ?v14Lx2) rfl HSS.out (by rfl) ?y14Lx2 ?_
    case y14Lx2 => rintro w ⟨s1, s2, s3, s4, s5, s6, s7⟩; go_simp; with_reducible rfl
    simp only [aP, aN, aT, aZ, aS]
    refine tV 4 (ix [5, 11, 12]) (v := ?v14Lx4) rfl HSS.out (by rfl) ?y14Lx4 ?_
    case y14Lx4 => rintro w ⟨s1, s2, s3, s4, s5, s6, s7⟩; go_simp; with_reducible rfl
    simp only [aP, aN, aT, aZ, aS]
    refine tG 5 (ix [11, 12]) rfl HSS.out (yieldsIf_load_mid (by rfl) 39 _ rfl g1 (o1 + i * 11) (by rfl) (vcells ka.sc xA xc xA1 ka.keys.length xc1 xA2 ka.kids.length xc2) _ (fun w' h => h.2.2.2.2.2.1) Tryz.underlying39 rfl hi39) ?_
    simp only [aP, aN, aT, aZ, aS]
    refine tV 7 (rg 9 12) (v := ?v14Lx7) rfl HSS.out (by rfl) ?y14Lx7 ?_
    case y14Lx7 => rintro w ⟨s1, s2, s3, s4, s5, s6, s7⟩; go_simp; with_reducible rfl
    simp only [aP, aN, aT, aZ, aS]
    refine tV 9 (ix [10, 11, 12]) (v := ?v14Lx9) rfl HSS.out (by rfl) ?y14Lx9 ?_
    case y14Lx9 => rintro w ⟨s1, s2, s3, s4, s5, s6, s7⟩; go_simp; with_reducible rfl
    simp only [aP, aN, aT, aZ, aS]
    refine tG 10 (ix [11, 12]) rfl HSS.out (yieldsIf_load_mid (by rfl) 39 _ rfl g2 (o2 + i * 11) (by rfl) (vcells kb.sc zA zc zA1 kb.keys.length zc1 zA2 kb.kids.length zc2) _ (fun w' h => h.2.2.2.2.2.2) Tryz.underlying39 rfl hi39) ?_
    simp only [aP, aN, aT, aZ, aS]
    refine wpAnyK_oneg 11 (by kernel_rfl) rfl (by rfl) (fun K' hK => ?_)
    go_simp
    refine Hcall.out.mono ?_
    rintro e w2 ⟨b2, rfl, -, he2⟩
    refine hK.out _ _ (fun h => absurd h (by decide)) ?_
    clear hK K'
    simp only [aP, aN, aT, aZ, aS]
    refine fV 12 (v := ?v14Lx12) rfl (by rfl) ?y14Lx12 ?_
    case y14Lx12 => intro w; go_simp; with_reducible rfl
    simp only [aP, aN, aT, aZ, aS]
    refine wpAnyK_done (by kernel_rfl) ?_ _
    have He2 := Lib.hid (HE1.out.drew.trans he2)
    clear he2
    cases b2 with
    |false =>
     go_wp2_with fail
     go_ret
     exact AnsB.mk trivial (HX.out.trans He2.out)
    |true =>
     go_wp2_with fail
     go_roundw
     case rel => exact ⟨i + 1, by omega, by go_num, HW.out.trans He2.out⟩
     case measure => simp [intOf]; omega
   ·go_wp2_with fail
    go_ret
    exact AnsB.mk trivial HX.out
 ·have hq : ((V.kids.length : Int) != U.kids.length) = true := by simp; omega
  clear hlen
  go_wp2_with fail
  go_ret
  exact AnsB.mk trivial HE.out
set_option maxRecDepth 100000 in
set_option maxHeartbeats 16000000 in
theorem same_seq49 (n : Nat) (hn5 : n + 1 ≤ 5) (hp : SameP n) (m m2 m3 : Nat) (w : World) (tv : Value) (T : Ty) (vs us : List Value) (V U : Vl) (hT : TyAt (fun _ => False) m w tv T) (hV : VlAt (fun _ => False) m2 w vs V) (hU : VlAt (fun _ => False) m3 w us U) (hG : Good (n + 1) T) (hn : V.sc.nul = false) (hn' : U.sc.nul = false) (hg : GoodV (n + 1) T V) (hg' : GoodV (n + 1) T U) (h : T.kind = 49) :
  Calls Tryz.prog 45 #[tv, .agg vs.toArray, .agg us.toArray] w (AnsB (fun _ => True) w) := by
 obtain ⟨B, bc, B', bc', rfl⟩ := hT.form
 cases m2 with
 |zero => exact hV.elim
 |succ m2 =>
 cases m3 with
 |zero => exact hU.elim
 |succ m3 =>
 cases m with
 |zero => exact hT.elim
 |succ m =>
 have HTK : Hid (∀ i t, T.kids[i]? = some t → _) := Lib.hid (fun i t ht => tkid_at hT ht)
 have HGK := Lib.hid (fun t (ht : t ∈ T.kids) => hG.1 t ht)
 have hpos : 0 < T.kids.length := by
  have := hG.2
  unfold Shape at this
  omega
 have gk : ∀ X : Vl, GoodV (n + 1) T X → X.kids.length = T.kids.length ∧ ∀ (i : Nat) (t : Ty) (k : Vl), T.kids[i]? = some t → X.kids[i]? = some k → k.sc.nul = true ∨ GoodV n t k := fun X hg => by
  obtain ⟨-, h20, hg⟩ := hg
  rcases hg with ⟨h', _⟩ | ⟨h', _⟩ | ⟨h', _⟩ | ⟨_, _, hl, hall⟩
  ·omega
  ·omega
  ·omega
  ·refine ⟨hl, fun i t k ht hk => ?_⟩
   rcases hall i t k ht hk with hg | ⟨_, hn, _⟩
   ·exact .inr hg
   ·exact .inl hn
 obtain ⟨hkl, hgk⟩ := gk V hg
 obtain ⟨hkl', hgk'⟩ := gk U hg'
 have Hgk := Lib.hid hgk
 have Hgk' := Lib.hid hgk'
 have Hkl := Lib.hid hkl
 have Hkl' := Lib.hid hkl'
 clear gk hgk hgk' hkl hkl'
 have HT0 := Lib.hid hT
 have HV0 := Lib.hid hV
 have HU0 := Lib.hid hU
 obtain ⟨A, c, A1, c1, A2, c2, rfl, q1, q2, q3, q4, q5, q6, hs, hd, hrow1, hrow⟩ := hV
 obtain ⟨uA, uc, uA1, uc1, uA2, uc2, rfl, p1, p2, p3, p4, p5, p6, hs', hd', hrow1', hrow'⟩ := hU
 have HR := Lib.hid hrow
 have HR1 := Lib.hid hrow1
 have HS := Lib.hid hrow'
 have HS1 := Lib.hid hrow1'
 have Hp := Lib.hid hp
 clear hT hs hs' hG hd hd' hg hg' hrow hrow1 hrow' hrow1' hp
 simp only [vcells] at HV0 HU0 ⊢
 rw [hn] at HV0 ⊢
 rw [hn'] at HU0 ⊢
 unfold maxLen at q2 q4 q6 p2 p4 p6
 go_enter Tryz.func45, Tryz.ntmps45
 have t33 : (T.kind != 33) = true := by simp [h]
 have t49 : (T.kind == 49) = true := by simp [h]
 have t48 : (T.kind == 48) = false := by simp [h]
 have tk0 : ((T.kids.length : Int) == 0) = false := beq_eq_false_iff_ne.2 (by omega)
 clear h
 go_upto_region 1 with fail
 generalize hW : World.alloc (World.alloc (World.alloc w _) _) _ = W
 have h0 : Blk W w.heap.size 35 #[.int .i64 T.kind, .slice B T.kids.length bc, .slice B' T.names.length bc'] ∧ Blk W (w.heap.size + 1) 39 #[.bool false, .int .i64 V.sc.n, .float .f64 V.sc.f, .string V.sc.text, .slice A V.sc.data.length c, .int .i64 V.sc.scale, .int .i64 V.sc.months, .int .i64 V.sc.days, .int .i64 V.sc.nanos, .slice A1 V.keys.length c1, .slice A2 V.kids.length c2] ∧ Blk W (w.heap.size + 1 + 1) 39 #[.bool false, .int .i64 U.sc.n, .float .f64 U.sc.f, .string U.sc.text, .slice uA U.sc.data.length uc, .int .i64 U.sc.scale, .int .i64 U.sc.months, .int .i64 U.sc.days, .int .i64 U.sc.nanos, .slice uA1 U.keys.length uc1, .slice uA2 U.kids.length uc2] ∧ Ext w W := by
  rw [← hW]
  exact ⟨((Blk.new w 35 _).alloc _).alloc _, (Blk.new' _ _ 39 _ (by simp)).alloc _, Blk.new' _ _ 39 _ (by simp), (((Ext.refl w).alloc _).alloc _).alloc _⟩
 clear hW
 obtain ⟨hb1, hb2, hb3, hE⟩ := h0
 have hlt := hb3.lt
 have HE := Lib.hid hE
 have HB1 := Lib.hid hb1
 have HB2 := Lib.hid hb2
 have HB3 := Lib.hid hb3
 clear hb1 hb2 hb3 hE
 obtain ⟨b0, b1, b2⟩ := HB1.out.c3
 obtain ⟨d0, d1, d2, d3, d4, d5, d6, d7, d8, d9, d10⟩ := HB2.out.c11
 obtain ⟨e0, e1, e2, e3, e4, e5, e6, e7, e8, e9, e10⟩ := HB3.out.c11
 by_cases hlen : (V.kids.length : Int) = U.kids.length
 ·have hq : ((V.kids.length : Int) != U.kids.length) = false := by simp [hlen]
  have Hlen := Lib.hid hlen
  clear hlen
  go_wp2_with fail
  clear d0 d1 d2 d3 d4 d5 d6 d7 d8 d9 d10 e0 e1 e2 e3 e4 e5 e6 e7 e8 e9 e10 b0 b1 b2
  go_loopw [49] (fun v wr => ∃ i : Nat, i ≤ V.kids.length ∧ v = .int .i64 i ∧ Ext W wr) (fun v _ => V.kids.length - (intOf v).toNat)
  case atStart => exact ⟨0, Nat.zero_le _, rfl, Ext.refl _⟩
  case round =>
   obtain ⟨i, hi, rfl, hEw⟩ := hrel
   have HW := Lib.hid hEw
   have HX := Lib.hid (HE.out.trans hEw)
   clear hEw
   by_cases hlti : (i : Int) < V.kids.length
   ·have hlen := Hlen.out
    have hi' : i < V.kids.length := by omega
    have hj' : i < U.kids.length := by omega
    have hltj : (i : Int) < U.kids.length := by omega
    have hka : V.kids[i]? = some V.kids[i] := List.getElem?_eq_getElem hi'
    have hkb : U.kids[i]? = some U.kids[i] := List.getElem?_eq_getElem hj'
    have hlt' : i < T.kids.length := by have := Hkl.out; omega
    have hltt : (i : Int) < T.kids.length := by omega
    have hkt : T.kids[i]? = some T.kids[i] := List.getElem?_eq_getElem hlt'
    have Hga := Lib.hid (Hgk.out i _ _ hkt hka)
    have Hgb := Lib.hid (Hgk'.out i _ _ hkt hkb)
    have Hkg := Lib.hid (HGK.out _ (List.getElem_mem hlt'))
    have ht0 : T.kids[0]? = some T.kids[0] := List.getElem?_eq_getElem hpos
    obtain ⟨tb0, tx0, y0A, y0c, y0A', y0c', hB0, -, hty0, r0, r1, r2⟩ := HTK.out 0 _ ht0
    obtain ⟨tb, tx, yA, yc, yA', yc', hB, htb, hty, f0, f1, f2⟩ := HTK.out i _ hkt
    generalize T.kids[i] = kt at hkt hty f0 f1 f2 Hga Hgb Hkg
    generalize T.kids[0] = kt0 at ht0 hty0 r0 r1 r2
    rw [hB] at hB0
    injection hB0 with hB0
    injection hB0 with hB1 hB2
    subst hB1
    subst hB2
    subst hB
    have Hty := Lib.hid hty
    rw [Nat.zero_mul, Nat.add_zero] at r0 r1 r2
    clear hkt ht0 hty0
    obtain ⟨g1, o1, xA, xc, xA1, xc1, xA2, xc2, hA, hb1, hx1, hr1⟩ := kid_at HR.out hka
    generalize V.kids[i] = ka at hka hx1 hr1 Hga
    subst hA
    obtain ⟨g2, o2, zA, zc, zA1, zc1, zA2, zc2, hA, hb2, hx2, hr2⟩ := kid_at HS.out hkb
    generalize U.kids[i] = kb at hkb hx2 hr2 Hgb
    subst hA
    have Hx1 := Lib.hid hx1
    have Hx2 := Lib.hid hx2
    have Hr1 := Lib.hid hr1
    have Hr2 := Lib.hid hr2
    obtain ⟨c0, c1', c2'⟩ := (HB1.out.ext HW.out).c3
    have hltw : w.heap.size + 1 + 1 < wr.heap.size := (HB3.out.ext HW.out).lt
    have hlw0 : w.heap.size < wr.heap.size := by omega
    have hlw1 : w.heap.size + 1 < wr.heap.size := by omega
    have hltb : tb < wr.heap.size := Nat.lt_of_lt_of_le htb HX.out.size
    have j0 : wr.cell? ⟨tb, tx + i * 3, none⟩ = some (.int .i64 kt.kind) := HX.out.cellS f0
    have j1 : wr.cell? ⟨tb, tx + i * 3 + 1, none⟩ = some (.slice yA kt.kids.length yc) := HX.out.cellS f1
    have j2 : wr.cell? ⟨tb, tx + i * 3 + 2, none⟩ = some (.slice yA' kt.names.length yc') := HX.out.cellS f2
    have l0 : wr.cell? ⟨tb, tx, none⟩ = some (.int .i64 kt0.kind) := HX.out.cellS r0
    have l1 : wr.cell? ⟨tb, tx + 1, none⟩ = some (.slice y0A kt0.kids.length y0c) := HX.out.cellS r1
    have l2 : wr.cell? ⟨tb, tx + 2, none⟩ = some (.slice y0A' kt0.names.length y0c') := HX.out.cellS r2
    clear r0 r1 r2
    clear hka hkb hx1 hx2 hr1 hr2 hlen hty f0 f1 f2
    go_wp2_with fail
    generalize hW1 : World.alloc wr _ = W1
    have h1 : Blk W1 wr.heap.size 35 #[.int .i64 kt.kind, .slice yA kt.kids.length yc, .slice yA' kt.names.length yc'] ∧ Ext wr W1 := by
     rw [← hW1]
     exact ⟨Blk.new wr 35 _, (Ext.refl wr).alloc _⟩
    clear hW1 j0 j1 j2 c0 c1' c2' hltb l0 l1 l2
    obtain ⟨hB1, hE1⟩ := h1
    have hxd : Ext w W1.drew := (HX.out.trans hE1).drew
    have hcall := Hp.out m m2 m3 W1.drew _ kt _ _ ka kb (TyAt.onx (Onx.of_ext hxd _) _ _ _ Hty.out) (VlAt.onx (Onx.of_ext hxd _) _ _ _ Hx1.out) (VlAt.onx (Onx.of_ext hxd _) _ _ _ Hx2.out) Hkg.out Hga.out Hgb.out
    have hS : W1.drew.cell? ⟨wr.heap.size, 0, none⟩ = some (.int .i64 kt.kind) ∧ W1.drew.cell? ⟨wr.heap.size, 1, none⟩ = some (.slice yA kt.kids.length yc) ∧ W1.drew.cell? ⟨wr.heap.size, 2, none⟩ = some (.slice yA' kt.names.length yc') ∧ W1.drew.cell? ⟨w.heap.size + 1, 10, none⟩ = some (.slice (some ⟨g1, o1, none⟩) V.kids.length c2) ∧ W1.drew.cell? ⟨w.heap.size + 1 + 1, 10, none⟩ = some (.slice (some ⟨g2, o2, none⟩) U.kids.length uc2) ∧ W1.drew.rangeAt g1 (o1 + i * 11) (vcells ka.sc xA xc xA1 ka.keys.length xc1 xA2 ka.kids.length xc2) ∧ W1.drew.rangeAt g2 (o2 + i * 11) (vcells kb.sc zA zc zA1 kb.keys.length zc1 zA2 kb.kids.length zc2) := ⟨(hB1.drew).cell 0, (hB1.drew).cell 1, (hB1.drew).cell 2, (((HB2.out.ext HW.out).ext hE1).ext (Ext.refl W1).drew).cell 10, (((HB3.out.ext HW.out).ext hE1).ext (Ext.refl W1).drew).cell 10, fun j u hu => hxd.cellS (Hr1.out j u hu), fun j u hu => hxd.cellS (Hr2.out j u hu)⟩
    have HSS := Lib.hid hS
    have Hcall := Lib.hid hcall
    have HE1 := Lib.hid hE1
    clear hS hcall hE1 hxd hB1
    refine wp_region_K (fun w' => w'.cell? ⟨wr.heap.size, 0, none⟩ = some (.int .i64 kt.kind) ∧ w'.cell? ⟨wr.heap.size, 1, none⟩ = some (.slice yA kt.kids.length yc) ∧ w'.cell? ⟨wr.heap.size, 2, none⟩ = some (.slice yA' kt.names.length yc') ∧ w'.cell? ⟨w.heap.size + 1, 10, none⟩ = some (.slice (some ⟨g1, o1, none⟩) V.kids.length c2) ∧ w'.cell? ⟨w.heap.size + 1 + 1, 10, none⟩ = some (.slice (some ⟨g2, o2, none⟩) U.kids.length uc2) ∧ w'.rangeAt g1 (o1 + i * 11) (vcells ka.sc xA xc xA1 ka.keys.length xc1 xA2 ka.kids.length xc2) ∧ w'.rangeAt g2 (o2 + i * 11) (vcells kb.sc zA zc zA1 kb.keys.length zc1 zA2 kb.kids.length zc2)) (ix [0, 2, 4, 5, 7, 9, 10]) 13 [false, false, false, false, false, false, false, false, false, false, false, false, false] (by kernel_rfl) rfl rfl ?_
    refine fV 1 (v := ?v14Lx1) rfl (by rfl) ?y14Lx1 ?_
    case y14Lx1 => intro w; go_simp; with_reducible rfl
    simp only [aP, aN, aT, aZ, aS]
    refine fV 3 (v := ?v14Lx3) rfl (by rfl) ?y14Lx3 ?_
    case y14Lx3 => intro w; go_simp; with_reducible rfl
    simp only [aP, aN, aT, aZ, aS]
    refine fV 6 (v := ?v14Lx6) rfl (by rfl) ?y14Lx6 ?_
    case y14Lx6 => intro w; go_simp; with_reducible rfl
    simp only [aP, aN, aT, aZ, aS]
    refine fV 8 (v := ?v14Lx8) rfl (by rfl) ?y14Lx8 ?_
    case y14Lx8 => intro w; go_simp; with_reducible rfl
    simp only [aP, aN, aT, aZ, aS]
    refine tV 0 (ix [11, 12]) (v := ?v14Lx0) rfl HSS.out (by rfl) ?y14Lx0 ?_
    case y14Lx0 => rintro w ⟨s1, s2, s3, s4, s5, s6, s7⟩; go_simp; with_reducible rfl
    simp only [aP, aN, aT, aZ, aS]
    refine tV 2 (ix [4, 5, 11, 12]) (v := ?v14Lx2) rfl HSS.out (by rfl) ?y14Lx2 ?_
    case y14Lx2 => rintro w ⟨s1, s2, s3, s4, s5, s6, s7⟩; go_simp; with_reducible rfl
    simp only [aP, aN, aT, aZ, aS]
    refine tV 4 (ix [5, 11, 12]) (v := ?v14Lx4) rfl HSS.out (by rfl) ?y14Lx4 ?_
    case y14Lx4 => rintro w ⟨s1, s2, s3, s4, s5, s6, s7⟩; go_simp; with_reducible rfl
    simp only [aP, aN, aT, aZ, aS]
    refine tG 5 (ix [11, 12]) rfl HSS.out (yieldsIf_load_mid (by rfl) 39 _ rfl g1 (o1 + i * 11) (by rfl) (vcells ka.sc xA xc xA1 ka.keys.length xc1 xA2 ka.kids.length xc2) _ (fun w' h => h.2.2.2.2.2.1) Tryz.underlying39 rfl hi39) ?_
    simp only [aP, aN, aT, aZ, aS]
    refine tV 7 (rg 9 12) (v := ?v14Lx7) rfl HSS.out (by rfl) ?y14Lx7 ?_
    case y14Lx7 => rintro w ⟨s1, s2, s3, s4, s5, s6, s7⟩; go_simp; with_reducible rfl
    simp only [aP, aN, aT, aZ, aS]
    refine tV 9 (ix [10, 11, 12]) (v := ?v14Lx9) rfl HSS.out (by rfl) ?y14Lx9 ?_
    case y14Lx9 => rintro w ⟨s1, s2, s3, s4, s5, s6, s7⟩; go_simp; with_reducible rfl
    simp only [aP, aN, aT, aZ, aS]
    refine tG 10 (ix [11, 12]) rfl HSS.out (yieldsIf_load_mid (by rfl) 39 _ rfl g2 (o2 + i * 11) (by rfl) (vcells kb.sc zA zc zA1 kb.keys.length zc1 zA2 kb.kids.length zc2) _ (fun w' h => h.2.2.2.2.2.2) Tryz.underlying39 rfl hi39) ?_
    simp only [aP, aN, aT, aZ, aS]
    refine wpAnyK_oneg 11 (by kernel_rfl) rfl (by rfl) (fun K' hK => ?_)
    go_simp
    refine Hcall.out.mono ?_
    rintro e w2 ⟨b2, rfl, -, he2⟩
    refine hK.out _ _ (fun h => absurd h (by decide)) ?_
    clear hK K'
    simp only [aP, aN, aT, aZ, aS]
    refine fV 12 (v := ?v14Lx12) rfl (by rfl) ?y14Lx12 ?_
    case y14Lx12 => intro w; go_simp; with_reducible rfl
    simp only [aP, aN, aT, aZ, aS]
    refine wpAnyK_done (by kernel_rfl) ?_ _
    have He2 := Lib.hid (HE1.out.drew.trans he2)
    clear he2
    cases b2 with
    |false =>
     go_wp2_with fail
     go_ret
     exact AnsB.mk trivial (HX.out.trans He2.out)
    |true =>
     go_wp2_with fail
     go_roundw
     case rel => exact ⟨i + 1, by omega, by go_num, HW.out.trans He2.out⟩
     case measure => simp [intOf]; omega
   ·go_wp2_with fail
    go_ret
    exact AnsB.mk trivial HX.out
 ·have hq : ((V.kids.length : Int) != U.kids.length) = true := by simp; omega
  clear hlen
  go_wp2_with fail
  go_ret
  exact AnsB.mk trivial HE.out
set_option maxRecDepth 100000 in
set_option maxHeartbeats 16000000 in
theorem same_map (n : Nat) (hn5 : n + 1 ≤ 5) (hp : SameP n) (m m2 m3 : Nat) (w : World) (tv : Value) (T : Ty) (vs us : List Value) (V U : Vl) (hT : TyAt (fun _ => False) m w tv T) (hV : VlAt (fun _ => False) m2 w vs V) (hU : VlAt (fun _ => False) m3 w us U) (hG : Good (n + 1) T) (hn : V.sc.nul = false) (hn' : U.sc.nul = false) (hg : GoodV (n + 1) T V) (hg' : GoodV (n + 1) T U) (h : T.kind = 33) :
  Calls Tryz.prog 45 #[tv, .agg vs.toArray, .agg us.toArray] w (AnsB (fun _ => True) w) := by
 obtain ⟨B, bc, B', bc', rfl⟩ := hT.form
 cases m2 with
 |zero => exact hV.elim
 |succ m2 =>
 cases m3 with
 |zero => exact hU.elim
 |succ m3 =>
 cases m with
 |zero => exact hT.elim
 |succ m =>
 have hl1 : T.kids.length = 2 := by
  have := hG.2
  unfold Shape at this
  omega
 have hkt : T.kids[0]? = some T.kids[0] := List.getElem?_eq_getElem (by omega)
 have hkg : Good n T.kids[0] := hG.1 _ (List.getElem_mem _)
 have hmt : T.kids[1]? = some T.kids[1] := List.getElem?_eq_getElem (by omega)
 have hmg : Good n T.kids[1] := hG.1 _ (List.getElem_mem _)
 generalize T.kids[0] = kt at hkt hkg
 generalize T.kids[1] = lt at hmt hmg
 have HT := Lib.hid (tkid_at hT hkt)
 have HU := Lib.hid (tkid_at hT hmt)
 have gk : ∀ X : Vl, GoodV (n + 1) T X → X.keys.length = X.kids.length ∧ (∀ k ∈ X.keys, GoodV n kt k) ∧ ∀ k ∈ X.kids, GoodV n lt k := fun X hg => by
  obtain ⟨-, h20, hg⟩ := hg
  rcases hg with ⟨h', _⟩ | ⟨h', _⟩ | ⟨_, hl, t, t', ht, ht', hall, hall'⟩ | ⟨h', _⟩
  ·omega
  ·omega
  ·rw [hkt] at ht
   injection ht with ht
   subst ht
   rw [hmt] at ht'
   injection ht' with ht'
   subst ht'
   exact ⟨hl, hall, hall'⟩
  ·omega
 have Hgv := Lib.hid (gk V hg)
 have Hgu := Lib.hid (gk U hg')
 have Hkg := Lib.hid hkg
 have Hmg := Lib.hid hmg
 have hbc : 0 < T.kids.length := by omega
 have hbd : (1 : Int) < (T.kids.length : Int) := by omega
 clear gk hkt hkg hmt hmg hl1
 have HT0 := Lib.hid hT
 have HV0 := Lib.hid hV
 have HU0 := Lib.hid hU
 obtain ⟨A, c, A1, c1, A2, c2, rfl, q1, q2, q3, q4, q5, q6, hs, hd, hrow1, hrow⟩ := hV
 obtain ⟨uA, uc, uA1, uc1, uA2, uc2, rfl, p1, p2, p3, p4, p5, p6, hs', hd', hrow1', hrow'⟩ := hU
 have HR := Lib.hid hrow
 have HR1 := Lib.hid hrow1
 have HS := Lib.hid hrow'
 have HS1 := Lib.hid hrow1'
 have Hp := Lib.hid hp
 clear hT hs hs' hG hd hd' hg hg' hrow hrow1 hrow' hrow1' hp
 simp only [vcells] at HV0 HU0 ⊢
 rw [hn] at HV0 ⊢
 rw [hn'] at HU0 ⊢
 unfold maxLen at q2 q4 q6 p2 p4 p6
 go_enter Tryz.func45, Tryz.ntmps45
 have t33 : (T.kind != 33) = false := by simp [h]
 clear h
 go_upto_region 1 with fail
 generalize hW : World.alloc (World.alloc (World.alloc w _) _) _ = W
 have h0 : Blk W w.heap.size 35 #[.int .i64 T.kind, .slice B T.kids.length bc, .slice B' T.names.length bc'] ∧ Blk W (w.heap.size + 1) 39 #[.bool false, .int .i64 V.sc.n, .float .f64 V.sc.f, .string V.sc.text, .slice A V.sc.data.length c, .int .i64 V.sc.scale, .int .i64 V.sc.months, .int .i64 V.sc.days, .int .i64 V.sc.nanos, .slice A1 V.keys.length c1, .slice A2 V.kids.length c2] ∧ Blk W (w.heap.size + 1 + 1) 39 #[.bool false, .int .i64 U.sc.n, .float .f64 U.sc.f, .string U.sc.text, .slice uA U.sc.data.length uc, .int .i64 U.sc.scale, .int .i64 U.sc.months, .int .i64 U.sc.days, .int .i64 U.sc.nanos, .slice uA1 U.keys.length uc1, .slice uA2 U.kids.length uc2] ∧ Ext w W := by
  rw [← hW]
  exact ⟨((Blk.new w 35 _).alloc _).alloc _, (Blk.new' _ _ 39 _ (by simp)).alloc _, Blk.new' _ _ 39 _ (by simp), (((Ext.refl w).alloc _).alloc _).alloc _⟩
 clear hW
 obtain ⟨hb1, hb2, hb3, hE⟩ := h0
 have hlt := hb3.lt
 have HE := Lib.hid hE
 have HB1 := Lib.hid hb1
 have HB2 := Lib.hid hb2
 have HB3 := Lib.hid hb3
 clear hb1 hb2 hb3 hE
 obtain ⟨b0, b1, b2⟩ := HB1.out.c3
 obtain ⟨d0, d1, d2, d3, d4, d5, d6, d7, d8, d9, d10⟩ := HB2.out.c11
 obtain ⟨e0, e1, e2, e3, e4, e5, e6, e7, e8, e9, e10⟩ := HB3.out.c11
 by_cases hlen : (V.keys.length : Int) = U.keys.length
 ·have hq : ((V.keys.length : Int) != U.keys.length) = false := by simp [hlen]
  have Hlen := Lib.hid hlen
  clear hlen
  go_wp2_with fail
  clear d0 d1 d2 d3 d4 d5 d6 d7 d8 d9 d10 e0 e1 e2 e3 e4 e5 e6 e7 e8 e9 e10 b0 b1 b2
  go_loopw [93] (fun v wr => ∃ i : Nat, i ≤ V.keys.length ∧ v = .int .i64 i ∧ Ext W wr) (fun v _ => V.keys.length - (intOf v).toNat)
  case atStart => exact ⟨0, Nat.zero_le _, rfl, Ext.refl _⟩
  case round =>
   obtain ⟨i, hi, rfl, hEw⟩ := hrel
   have HW := Lib.hid hEw
   have HX := Lib.hid (HE.out.trans hEw)
   clear hEw
   by_cases hlti : (i : Int) < V.keys.length
   ·obtain ⟨e0, e1, e2, e3, e4, e5, e6, e7, e8, e9, e10⟩ := (HB3.out.ext HW.out).c11
    go_wp2_with fail
    obtain ⟨wp, hwp⟩ : ∃ x, x = wr := ⟨wr, rfl⟩
    subst hwp
    clear e0 e1 e2 e3 e4 e5 e6 e7 e8 e9 e10
    go_loopw [10, 99] (fun fv v wr => ∃ (fb : Bool) (j : Nat), fv = .bool fb ∧ j ≤ U.keys.length ∧ v = .int .i64 j ∧ Ext W wr) (fun _ v _ => U.keys.length - (intOf v).toNat)
    case atStart => exact ⟨false, 0, rfl, Nat.zero_le _, rfl, HW.out⟩
    case round =>
     obtain ⟨fb, j, rfl, hj, rfl, hEw⟩ := hrel
     have HW2 := Lib.hid hEw
     have HX2 := Lib.hid (HE.out.trans hEw)
     clear hEw
     by_cases hltj : (j : Int) < U.keys.length
     ·have hi' : i < V.keys.length := by omega
      have hj' : j < U.keys.length := by omega
      have hi2 : i < V.kids.length := by have := Hgv.out.1; omega
      have hj2 : j < U.kids.length := by have := Hgu.out.1; omega
      have hlti2 : (i : Int) < V.kids.length := by omega
      have hltj2 : (j : Int) < U.kids.length := by omega
      have hka : V.keys[i]? = some V.keys[i] := List.getElem?_eq_getElem hi'
      have hkb : U.keys[j]? = some U.keys[j] := List.getElem?_eq_getElem hj'
      have hkc : V.kids[i]? = some V.kids[i] := List.getElem?_eq_getElem hi2
      have hkd : U.kids[j]? = some U.kids[j] := List.getElem?_eq_getElem hj2
      have Hga := Lib.hid (Hgv.out.2.1 _ (List.getElem_mem hi'))
      have Hgb := Lib.hid (Hgu.out.2.1 _ (List.getElem_mem hj'))
      have Hgc := Lib.hid (Hgv.out.2.2 _ (List.getElem_mem hi2))
      have Hgd := Lib.hid (Hgu.out.2.2 _ (List.getElem_mem hj2))
      obtain ⟨tb, tx, kA, kc, kA', kc', hB, htb, hty, f0, f1, f2⟩ := HT.out
      rw [Nat.zero_mul, Nat.add_zero] at f0 f1 f2
      subst hB
      obtain ⟨tb', tx', lA, lc, lA', lc', hB, htb', htu, r0, r1, r2⟩ := HU.out
      injection hB with hB
      injection hB with hBa hBb
      subst hBa
      subst hBb
      rw [Nat.one_mul] at r0 r1 r2
      obtain ⟨g1, o1, xA, xc, xA1, xc1, xA2, xc2, hA, hb1, hx1, hr1⟩ := kid_at HR1.out hka
      generalize V.keys[i] = ax at hka hx1 hr1 Hga
      subst hA
      obtain ⟨g2, o2, yA, yc, yA1, yc1, yA2, yc2, hA, hb2, hx2, hr2⟩ := kid_at HS1.out hkb
      generalize U.keys[j] = bx at hkb hx2 hr2 Hgb
      subst hA
      obtain ⟨g3, o3, zA, zc, zA1, zc1, zA2, zc2, hA, hb3, hx3, hr3⟩ := kid_at HR.out hkc
      generalize V.kids[i] = ay at hkc hx3 hr3 Hgc
      subst hA
      obtain ⟨g4, o4, vA, vc, vA1, vc1, vA2, vc2, hA, hb4, hx4, hr4⟩ := kid_at HS.out hkd
      generalize U.kids[j] = by_ at hkd hx4 hr4 Hgd
      subst hA
      have hS : ∀ wz, Ext W wz → wz.cell? ⟨w.heap.size, 1, none⟩ = some (.slice (some ⟨tb, tx, none⟩) T.kids.length bc) ∧ wz.cell? ⟨w.heap.size + 1, 9, none⟩ = some (.slice (some ⟨g1, o1, none⟩) V.keys.length c1) ∧ wz.cell? ⟨w.heap.size + 1, 10, none⟩ = some (.slice (some ⟨g3, o3, none⟩) V.kids.length c2) ∧ wz.cell? ⟨w.heap.size + 1 + 1, 9, none⟩ = some (.slice (some ⟨g2, o2, none⟩) U.keys.length uc1) ∧ wz.cell? ⟨w.heap.size + 1 + 1, 10, none⟩ = some (.slice (some ⟨g4, o4, none⟩) U.kids.length uc2) ∧ wz.cell? ⟨tb, tx, none⟩ = some (.int .i64 kt.kind) ∧ wz.cell? ⟨tb, tx + 1, none⟩ = some (.slice kA kt.kids.length kc) ∧ wz.cell? ⟨tb, tx + 2, none⟩ = some (.slice kA' kt.names.length kc') ∧ wz.cell? ⟨tb, tx + 3, none⟩ = some (.int .i64 lt.kind) ∧ wz.cell? ⟨tb, tx + 4, none⟩ = some (.slice lA lt.kids.length lc) ∧ wz.cell? ⟨tb, tx + 5, none⟩ = some (.slice lA' lt.names.length lc') ∧ wz.rangeAt g1 (o1 + i * 11) (vcells ax.sc xA xc xA1 ax.keys.length xc1 xA2 ax.kids.length xc2) ∧ wz.rangeAt g2 (o2 + j * 11) (vcells bx.sc yA yc yA1 bx.keys.length yc1 yA2 bx.kids.length yc2) ∧ wz.rangeAt g3 (o3 + i * 11) (vcells ay.sc zA zc zA1 ay.keys.length zc1 zA2 ay.kids.length zc2) ∧ wz.rangeAt g4 (o4 + j * 11) (vcells by_.sc vA vc vA1 by_.keys.length vc1 vA2 by_.kids.length vc2) := fun wz he => by
       have hx := HE.out.trans he
       exact ⟨(HB1.out.ext he).cell 1, (HB2.out.ext he).cell 9, (HB2.out.ext he).cell 10, (HB3.out.ext he).cell 9, (HB3.out.ext he).cell 10, hx.cellS f0, hx.cellS f1, hx.cellS f2, hx.cellS r0, hx.cellS r1, hx.cellS r2,
        fun q u hu => hx.cellS (hr1 q u hu), fun q u hu => hx.cellS (hr2 q u hu), fun q u hu => hx.cellS (hr3 q u hu), fun q u hu => hx.cellS (hr4 q u hu)⟩
      have hc1 : ∀ wz, Ext W wz → _ := fun wz he => Hp.out m m2 m3 wz _ kt _ _ ax bx (TyAt.onx (Onx.of_ext (HE.out.trans he) _) _ _ _ hty) (VlAt.onx (Onx.of_ext (HE.out.trans he) _) _ _ _ hx1) (VlAt.onx (Onx.of_ext (HE.out.trans he) _) _ _ _ hx2) Hkg.out (.inr Hga.out) (.inr Hgb.out)
      have hc2 : ∀ wz, Ext W wz → _ := fun wz he => Hp.out m m2 m3 wz _ lt _ _ ay by_ (TyAt.onx (Onx.of_ext (HE.out.trans he) _) _ _ _ htu) (VlAt.onx (Onx.of_ext (HE.out.trans he) _) _ _ _ hx3) (VlAt.onx (Onx.of_ext (HE.out.trans he) _) _ _ _ hx4) Hmg.out (.inr Hgc.out) (.inr Hgd.out)
      have HSS := Lib.hid hS
      have Hc1 := Lib.hid hc1
      have Hc2 := Lib.hid hc2
      have hst : Ext W wr.drew := HW2.out.drew
      have Hst := Lib.hid hst
      clear hS hc1 hc2 hst hka hkb hkc hkd hx1 hx2 hx3 hx4 hr1 hr2 hr3 hr4 hty htu f0 f1 f2 r0 r1 r2
      go_upto_region 27 with fail
      cases fb with
      |true =>
       refine wp_region_K (fun w' => w'.cell? ⟨w.heap.size, 1, none⟩ = some (.slice (some ⟨tb, tx, none⟩) T.kids.length bc) ∧ w'.cell? ⟨w.heap.size + 1, 9, none⟩ = some (.slice (some ⟨g1, o1, none⟩) V.keys.length c1) ∧ w'.cell? ⟨w.heap.size + 1, 10, none⟩ = some (.slice (some ⟨g3, o3, none⟩) V.kids.length c2) ∧ w'.cell? ⟨w.heap.size + 1 + 1, 9, none⟩ = some (.slice (some ⟨g2, o2, none⟩) U.keys.length uc1) ∧ w'.cell? ⟨w.heap.size + 1 + 1, 10, none⟩ = some (.slice (some ⟨g4, o4, none⟩) U.kids.length uc2) ∧ w'.cell? ⟨tb, tx, none⟩ = some (.int .i64 kt.kind) ∧ w'.cell? ⟨tb, tx + 1, none⟩ = some (.slice kA kt.kids.length kc) ∧ w'.cell? ⟨tb, tx + 2, none⟩ = some (.slice kA' kt.names.length kc') ∧ w'.cell? ⟨tb, tx + 3, none⟩ = some (.int .i64 lt.kind) ∧ w'.cell? ⟨tb, tx + 4, none⟩ = some (.slice lA lt.kids.length lc) ∧ w'.cell? ⟨tb, tx + 5, none⟩ = some (.slice lA' lt.names.length lc') ∧ w'.rangeAt g1 (o1 + i * 11) (vcells ax.sc xA xc xA1 ax.keys.length xc1 xA2 ax.kids.length xc2) ∧ w'.rangeAt g2 (o2 + j * 11) (vcells bx.sc yA yc yA1 bx.keys.length yc1 yA2 bx.kids.length yc2) ∧ w'.rangeAt g3 (o3 + i * 11) (vcells ay.sc zA zc zA1 ay.keys.length zc1 zA2 ay.kids.length zc2) ∧ w'.rangeAt g4 (o4 + j * 11) (vcells by_.sc vA vc vA1 by_.keys.length vc1 vA2 by_.kids.length vc2)) (ix [3, 5, 7, 9, 10, 12, 14, 15, 19, 21, 22, 23, 24, 25, 26, 27, 28, 29, 30, 31]) 36 [false, false, false, false, false, false, false, false, false, false, false, false, false, false, false, false, false, false, false, false, false, false, false, false, false, false, false, false, false, false, false, false, false, false, false, false] (by kernel_rfl) rfl rfl ?_
       refine fV 0 (v := ?v27Ax0) rfl (by rfl) ?y27Ax0 ?_
       case y27Ax0 => intro w; go_simp; with_reducible rfl
       simp only [aP, aN, aT, aZ, aS]
       refine fV 1 (v := ?v27Ax1) rfl (by rfl) ?y27Ax1 ?_
       case y27Ax1 => intro w; go_simp; with_reducible rfl
       simp only [aP, aN, aT, aZ, aS]
       refine fU 2 rfl (by rfl) ?_
       simp only [aP, aN, aT, aZ, aS]
       refine fU 6 rfl (by rfl) ?_
       simp only [aP, aN, aT, aZ, aS]
       refine fU 8 rfl (by rfl) ?_
       simp only [aP, aN, aT, aZ, aS]
       refine fU 11 rfl (by rfl) ?_
       simp only [aP, aN, aT, aZ, aS]
       refine fU 13 rfl (by rfl) ?_
       simp only [aP, aN, aT, aZ, aS]
       refine tU 3 (ix [4, 5, 16, 17, 18, 19, 20, 21, 22, 23, 24, 25, 26, 27, 28, 29, 30, 31, 32, 33, 34, 35]) rfl (HSS.out _ Hst.out) (by rfl) ?_
       simp only [aP, aN, aT, aZ, aS]
       refine fU 4 rfl (by rfl) ?_
       simp only [aP, aN, aT, aZ, aS]
       refine tU 5 (rg 16 35) rfl (HSS.out _ Hst.out) (by rfl) ?_
       simp only [aP, aN, aT, aZ, aS]
       refine tU 7 (ix [9, 10, 16, 17, 18, 19, 20, 21, 22, 23, 24, 25, 26, 27, 28, 29, 30, 31, 32, 33, 34, 35]) rfl (HSS.out _ Hst.out) (by rfl) ?_
       simp only [aP, aN, aT, aZ, aS]
       refine tU 9 (ix [10, 16, 17, 18, 19, 20, 21, 22, 23, 24, 25, 26, 27, 28, 29, 30, 31, 32, 33, 34, 35]) rfl (HSS.out _ Hst.out) (by rfl) ?_
       simp only [aP, aN, aT, aZ, aS]
       refine tU 10 (rg 16 35) rfl (HSS.out _ Hst.out) (by rfl) ?_
       simp only [aP, aN, aT, aZ, aS]
       refine tU 12 (rg 14 35) rfl (HSS.out _ Hst.out) (by rfl) ?_
       simp only [aP, aN, aT, aZ, aS]
       refine tU 14 (rg 15 35) rfl (HSS.out _ Hst.out) (by rfl) ?_
       simp only [aP, aN, aT, aZ, aS]
       refine tU 15 (rg 16 35) rfl (HSS.out _ Hst.out) (by rfl) ?_
       simp only [aP, aN, aT, aZ, aS]
       refine wpAnyK_skip 16 (by kernel_rfl) rfl (by rfl) (fun h => absurd h (by decide)) ?_
       simp only [aP, aN, aT, aZ, aS]
       refine fU 17 rfl (by rfl) ?_
       simp only [aP, aN, aT, aZ, aS]
       refine fU 18 rfl (by rfl) ?_
       simp only [aP, aN, aT, aZ, aS]
       refine tU 19 (ix [20, 21, 32, 33, 34, 35]) rfl (HSS.out _ Hst.out) (by rfl) ?_
       simp only [aP, aN, aT, aZ, aS]
       refine fU 20 rfl (by rfl) ?_
       simp only [aP, aN, aT, aZ, aS]
       refine tU 21 (rg 32 35) rfl (HSS.out _ Hst.out) (by rfl) ?_
       simp only [aP, aN, aT, aZ, aS]
       refine tU 22 (ix [23, 25, 26, 32, 33, 34, 35]) rfl (HSS.out _ Hst.out) (by rfl) ?_
       simp only [aP, aN, aT, aZ, aS]
       refine tU 23 (ix [25, 26, 32, 33, 34, 35]) rfl (HSS.out _ Hst.out) (by rfl) ?_
       simp only [aP, aN, aT, aZ, aS]
       refine tU 24 (ix [25, 26, 32, 33, 34, 35]) rfl (HSS.out _ Hst.out) (by rfl) ?_
       simp only [aP, aN, aT, aZ, aS]
       refine tU 25 (ix [26, 32, 33, 34, 35]) rfl (HSS.out _ Hst.out) (by rfl) ?_
       simp only [aP, aN, aT, aZ, aS]
       refine tU 26 (rg 32 35) rfl (HSS.out _ Hst.out) (by rfl) ?_
       simp only [aP, aN, aT, aZ, aS]
       refine tU 27 (ix [28, 30, 31, 32, 33, 34, 35]) rfl (HSS.out _ Hst.out) (by rfl) ?_
       simp only [aP, aN, aT, aZ, aS]
       refine tU 28 (rg 30 35) rfl (HSS.out _ Hst.out) (by rfl) ?_
       simp only [aP, aN, aT, aZ, aS]
       refine tU 29 (rg 30 35) rfl (HSS.out _ Hst.out) (by rfl) ?_
       simp only [aP, aN, aT, aZ, aS]
       refine tU 30 (rg 31 35) rfl (HSS.out _ Hst.out) (by rfl) ?_
       simp only [aP, aN, aT, aZ, aS]
       refine tU 31 (rg 32 35) rfl (HSS.out _ Hst.out) (by rfl) ?_
       simp only [aP, aN, aT, aZ, aS]
       refine wpAnyK_skip 32 (by kernel_rfl) rfl (by rfl) (fun h => absurd h (by decide)) ?_
       simp only [aP, aN, aT, aZ, aS]
       refine fU 33 rfl (by rfl) ?_
       simp only [aP, aN, aT, aZ, aS]
       refine fV 34 (v := ?v27Ax34) rfl (by rfl) ?y27Ax34 ?_
       case y27Ax34 => intro w; go_simp; with_reducible rfl
       simp only [aP, aN, aT, aZ, aS]
       refine fV 35 (v := ?v27Ax35) rfl (by rfl) ?y27Ax35 ?_
       case y27Ax35 => intro w; go_simp; with_reducible rfl
       simp only [aP, aN, aT, aZ, aS]
       refine wpAnyK_done (by kernel_rfl) ?_ _
       go_wp2_with fail
       go_roundw
       case rel => exact ⟨true, j + 1, rfl, by omega, by go_num, HW2.out.drew⟩
       case measure => simp [intOf]; omega
      |false =>
       refine wp_region_K (fun w' => w'.cell? ⟨w.heap.size, 1, none⟩ = some (.slice (some ⟨tb, tx, none⟩) T.kids.length bc) ∧ w'.cell? ⟨w.heap.size + 1, 9, none⟩ = some (.slice (some ⟨g1, o1, none⟩) V.keys.length c1) ∧ w'.cell? ⟨w.heap.size + 1, 10, none⟩ = some (.slice (some ⟨g3, o3, none⟩) V.kids.length c2) ∧ w'.cell? ⟨w.heap.size + 1 + 1, 9, none⟩ = some (.slice (some ⟨g2, o2, none⟩) U.keys.length uc1) ∧ w'.cell? ⟨w.heap.size + 1 + 1, 10, none⟩ = some (.slice (some ⟨g4, o4, none⟩) U.kids.length uc2) ∧ w'.cell? ⟨tb, tx, none⟩ = some (.int .i64 kt.kind) ∧ w'.cell? ⟨tb, tx + 1, none⟩ = some (.slice kA kt.kids.length kc) ∧ w'.cell? ⟨tb, tx + 2, none⟩ = some (.slice kA' kt.names.length kc') ∧ w'.cell? ⟨tb, tx + 3, none⟩ = some (.int .i64 lt.kind) ∧ w'.cell? ⟨tb, tx + 4, none⟩ = some (.slice lA lt.kids.length lc) ∧ w'.cell? ⟨tb, tx + 5, none⟩ = some (.slice lA' lt.names.length lc') ∧ w'.rangeAt g1 (o1 + i * 11) (vcells ax.sc xA xc xA1 ax.keys.length xc1 xA2 ax.kids.length xc2) ∧ w'.rangeAt g2 (o2 + j * 11) (vcells bx.sc yA yc yA1 bx.keys.length yc1 yA2 bx.kids.length yc2) ∧ w'.rangeAt g3 (o3 + i * 11) (vcells ay.sc zA zc zA1 ay.keys.length zc1 zA2 ay.kids.length zc2) ∧ w'.rangeAt g4 (o4 + j * 11) (vcells by_.sc vA vc vA1 by_.keys.length vc1 vA2 by_.kids.length vc2)) (ix [3, 5, 7, 9, 10, 12, 14, 15, 19, 21, 22, 23, 24, 25, 26, 27, 28, 29, 30, 31]) 36 [false, false, false, false, false, false, false, false, false, false, false, false, false, false, false, false, false, false, false, false, false, false, false, false, false, false, false, false, false, false, false, false, false, false, false, false] (by kernel_rfl) rfl rfl ?_
       refine fV 0 (v := ?v27Bx0) rfl (by rfl) ?y27Bx0 ?_
       case y27Bx0 => intro w; go_simp; with_reducible rfl
       simp only [aP, aN, aT, aZ, aS]
       refine fV 1 (v := ?v27Bx1) rfl (by rfl) ?y27Bx1 ?_
       case y27Bx1 => intro w; go_simp; with_reducible rfl
       simp only [aP, aN, aT, aZ, aS]
       refine fV 2 (v := ?v27Bx2) rfl (by rfl) ?y27Bx2 ?_
       case y27Bx2 => intro w; go_simp; with_reducible rfl
       simp only [aP, aN, aT, aZ, aS]
       refine fV 6 (v := ?v27Bx6) rfl (by rfl) ?y27Bx6 ?_
       case y27Bx6 => intro w; go_simp; with_reducible rfl
       simp only [aP, aN, aT, aZ, aS]
       refine fV 8 (v := ?v27Bx8) rfl (by rfl) ?y27Bx8 ?_
       case y27Bx8 => intro w; go_simp; with_reducible rfl
       simp only [aP, aN, aT, aZ, aS]
       refine fV 11 (v := ?v27Bx11) rfl (by rfl) ?y27Bx11 ?_
       case y27Bx11 => intro w; go_simp; with_reducible rfl
       simp only [aP, aN, aT, aZ, aS]
       refine fV 13 (v := ?v27Bx13) rfl (by rfl) ?y27Bx13 ?_
       case y27Bx13 => intro w; go_simp; with_reducible rfl
       simp only [aP, aN, aT, aZ, aS]
       refine tV 3 (ix [4, 5, 16, 17, 18, 19, 20, 21, 22, 23, 24, 25, 26, 27, 28, 29, 30, 31, 32, 33, 34, 35]) (v := ?v27Bx3) rfl (HSS.out _ Hst.out) (by rfl) ?y27Bx3 ?_
       case y27Bx3 => rintro w ⟨s0, s1, s2, s3, s4, s5, s6, s7, s8, s9, s10, s11, s12, s13, s14⟩; go_simp; with_reducible rfl
       simp only [aP, aN, aT, aZ, aS]
       refine fV 4 (v := ?v27Bx4) rfl (by rfl) ?y27Bx4 ?_
       case y27Bx4 => intro w; go_simp; with_reducible rfl
       simp only [aP, aN, aT, aZ, aS]
       refine tV 5 (rg 16 35) (v := ?v27Bx5) rfl (HSS.out _ Hst.out) (by rfl) ?y27Bx5 ?_
       case y27Bx5 => rintro w ⟨s0, s1, s2, s3, s4, s5, s6, s7, s8, s9, s10, s11, s12, s13, s14⟩; go_simp; with_reducible rfl
       simp only [aP, aN, aT, aZ, aS]
       refine tV 7 (ix [9, 10, 16, 17, 18, 19, 20, 21, 22, 23, 24, 25, 26, 27, 28, 29, 30, 31, 32, 33, 34, 35]) (v := ?v27Bx7) rfl (HSS.out _ Hst.out) (by rfl) ?y27Bx7 ?_
       case y27Bx7 => rintro w ⟨s0, s1, s2, s3, s4, s5, s6, s7, s8, s9, s10, s11, s12, s13, s14⟩; go_simp; with_reducible rfl
       simp only [aP, aN, aT, aZ, aS]
       refine tV 9 (ix [10, 16, 17, 18, 19, 20, 21, 22, 23, 24, 25, 26, 27, 28, 29, 30, 31, 32, 33, 34, 35]) (v := ?v27Bx9) rfl (HSS.out _ Hst.out) (by rfl) ?y27Bx9 ?_
       case y27Bx9 => rintro w ⟨s0, s1, s2, s3, s4, s5, s6, s7, s8, s9, s10, s11, s12, s13, s14⟩; go_simp; with_reducible rfl
       simp only [aP, aN, aT, aZ, aS]
       refine tG 10 (rg 16 35) rfl (HSS.out _ Hst.out) (yieldsIf_load_mid (by rfl) 39 _ rfl g1 (o1 + i * 11) (by rfl) (vcells ax.sc xA xc xA1 ax.keys.length xc1 xA2 ax.kids.length xc2) _ (fun w' h => h.2.2.2.2.2.2.2.2.2.2.2.1) Tryz.underlying39 rfl hi39) ?_
       simp only [aP, aN, aT, aZ, aS]
       refine tV 12 (rg 14 35) (v := ?v27Bx12) rfl (HSS.out _ Hst.out) (by rfl) ?y27Bx12 ?_
       case y27Bx12 => rintro w ⟨s0, s1, s2, s3, s4, s5, s6, s7, s8, s9, s10, s11, s12, s13, s14⟩; go_simp; with_reducible rfl
       simp only [aP, aN, aT, aZ, aS]
       refine tV 14 (rg 15 35) (v := ?v27Bx14) rfl (HSS.out _ Hst.out) (by rfl) ?y27Bx14 ?_
       case y27Bx14 => rintro w ⟨s0, s1, s2, s3, s4, s5, s6, s7, s8, s9, s10, s11, s12, s13, s14⟩; go_simp; with_reducible rfl
       simp only [aP, aN, aT, aZ, aS]
       refine tG 15 (rg 16 35) rfl (HSS.out _ Hst.out) (yieldsIf_load_mid (by rfl) 39 _ rfl g2 (o2 + j * 11) (by rfl) (vcells bx.sc yA yc yA1 bx.keys.length yc1 yA2 bx.kids.length yc2) _ (fun w' h => h.2.2.2.2.2.2.2.2.2.2.2.2.1) Tryz.underlying39 rfl hi39) ?_
       simp only [aP, aN, aT, aZ, aS]
       refine wpAnyK_oneg 16 (by kernel_rfl) rfl (by rfl) (fun K' hK => ?_)
       go_simp
       refine (Hc1.out _ Hst.out).mono ?_
       rintro e w2 ⟨b2, rfl, -, he2⟩
       have Hx2 := Lib.hid (Hst.out.trans he2)
       clear he2
       refine hK.out _ _ (fun h => absurd h (by decide)) ?_
       clear hK K'
       simp only [aP, aN, aT, aZ, aS]
       cases b2 with
       |false =>
        refine fV 17 (v := ?v27Cx17) rfl (by rfl) ?y27Cx17 ?_
        case y27Cx17 => intro w; go_simp; with_reducible rfl
        simp only [aP, aN, aT, aZ, aS]
        refine fU 18 rfl (by rfl) ?_
        simp only [aP, aN, aT, aZ, aS]
        refine tU 19 (ix [20, 21, 32, 33, 34, 35]) rfl (HSS.out _ Hx2.out) (by rfl) ?_
        simp only [aP, aN, aT, aZ, aS]
        refine fU 20 rfl (by rfl) ?_
        simp only [aP, aN, aT, aZ, aS]
        refine tU 21 (rg 32 35) rfl (HSS.out _ Hx2.out) (by rfl) ?_
        simp only [aP, aN, aT, aZ, aS]
        refine tU 22 (ix [23, 25, 26, 32, 33, 34, 35]) rfl (HSS.out _ Hx2.out) (by rfl) ?_
        simp only [aP, aN, aT, aZ, aS]
        refine tU 23 (ix [25, 26, 32, 33, 34, 35]) rfl (HSS.out _ Hx2.out) (by rfl) ?_
        simp only [aP, aN, aT, aZ, aS]
        refine tU 24 (ix [25, 26, 32, 33, 34, 35]) rfl (HSS.out _ Hx2.out) (by rfl) ?_
        simp only [aP, aN, aT, aZ, aS]
        refine tU 25 (ix [26, 32, 33, 34, 35]) rfl (HSS.out _ Hx2.out) (by rfl) ?_
        simp only [aP, aN, aT, aZ, aS]
        refine tU 26 (rg 32 35) rfl (HSS.out _ Hx2.out) (by rfl) ?_
        simp only [aP, aN, aT, aZ, aS]
        refine tU 27 (ix [28, 30, 31, 32, 33, 34, 35]) rfl (HSS.out _ Hx2.out) (by rfl) ?_
        simp only [aP, aN, aT, aZ, aS]
        refine tU 28 (rg 30 35) rfl (HSS.out _ Hx2.out) (by rfl) ?_
        simp only [aP, aN, aT, aZ, aS]
        refine tU 29 (rg 30 35) rfl (HSS.out _ Hx2.out) (by rfl) ?_
        simp only [aP, aN, aT, aZ, aS]
        refine tU 30 (rg 31 35) rfl (HSS.out _ Hx2.out) (by rfl) ?_
        simp only [aP, aN, aT, aZ, aS]
        refine tU 31 (rg 32 35) rfl (HSS.out _ Hx2.out) (by rfl) ?_
        simp only [aP, aN, aT, aZ, aS]
        refine wpAnyK_skip 32 (by kernel_rfl) rfl (by rfl) (fun h => absurd h (by decide)) ?_
        simp only [aP, aN, aT, aZ, aS]
        refine fV 33 (v := ?v27Cx33) rfl (by rfl) ?y27Cx33 ?_
        case y27Cx33 => intro w; go_simp; with_reducible rfl
        simp only [aP, aN, aT, aZ, aS]
        refine fV 34 (v := ?v27Cx34) rfl (by rfl) ?y27Cx34 ?_
        case y27Cx34 => intro w; go_simp; with_reducible rfl
        simp only [aP, aN, aT, aZ, aS]
        refine fV 35 (v := ?v27Cx35) rfl (by rfl) ?y27Cx35 ?_
        case y27Cx35 => intro w; go_simp; with_reducible rfl
        simp only [aP, aN, aT, aZ, aS]
        refine wpAnyK_done (by kernel_rfl) ?_ _
        go_wp2_with fail
        go_roundw
        case rel => exact ⟨false, j + 1, rfl, by omega, by go_num, Hx2.out⟩
        case measure => simp [intOf]; omega
       |true =>
        refine fV 17 (v := ?v27Dx17) rfl (by rfl) ?y27Dx17 ?_
        case y27Dx17 => intro w; go_simp; with_reducible rfl
        simp only [aP, aN, aT, aZ, aS]
        refine fV 18 (v := ?v27Dx18) rfl (by rfl) ?y27Dx18 ?_
        case y27Dx18 => intro w; go_simp; with_reducible rfl
        simp only [aP, aN, aT, aZ, aS]
        refine tV 19 (ix [20, 21, 32, 33, 34, 35]) (v := ?v27Dx19) rfl (HSS.out _ Hx2.out) (by rfl) ?y27Dx19 ?_
        case y27Dx19 => rintro w ⟨s0, s1, s2, s3, s4, s5, s6, s7, s8, s9, s10, s11, s12, s13, s14⟩; go_simp; with_reducible rfl
        simp only [aP, aN, aT, aZ, aS]
        refine fV 20 (v := ?v27Dx20) rfl (by rfl) ?y27Dx20 ?_
        case y27Dx20 => intro w; go_simp; with_reducible rfl
        simp only [aP, aN, aT, aZ, aS]
        refine tV 21 (rg 32 35) (v := ?v27Dx21) rfl (HSS.out _ Hx2.out) (by rfl) ?y27Dx21 ?_
        case y27Dx21 => rintro w ⟨s0, s1, s2, s3, s4, s5, s6, s7, s8, s9, s10, s11, s12, s13, s14⟩; go_simp; with_reducible rfl
        simp only [aP, aN, aT, aZ, aS]
        refine tV 22 (ix [23, 25, 26, 32, 33, 34, 35]) (v := ?v27Dx22) rfl (HSS.out _ Hx2.out) (by rfl) ?y27Dx22 ?_
        case y27Dx22 => rintro w ⟨s0, s1, s2, s3, s4, s5, s6, s7, s8, s9, s10, s11, s12, s13, s14⟩; go_simp; with_reducible rfl
        simp only [aP, aN, aT, aZ, aS]
        refine tV 23 (ix [25, 26, 32, 33, 34, 35]) (v := ?v27Dx23) rfl (HSS.out _ Hx2.out) (by rfl) ?y27Dx23 ?_
        case y27Dx23 => rintro w ⟨s0, s1, s2, s3, s4, s5, s6, s7, s8, s9, s10, s11, s12, s13, s14⟩; go_simp; with_reducible rfl
        simp only [aP, aN, aT, aZ, aS]
        refine tV 24 (ix [25, 26, 32, 33, 34, 35]) (v := ?v27Dx24) rfl (HSS.out _ Hx2.out) (by rfl) ?y27Dx24 ?_
        case y27Dx24 => rintro w ⟨s0, s1, s2, s3, s4, s5, s6, s7, s8, s9, s10, s11, s12, s13, s14⟩; go_simp; with_reducible rfl
        simp only [aP, aN, aT, aZ, aS]
        refine tV 25 (ix [26, 32, 33, 34, 35]) (v := ?v27Dx25) rfl (HSS.out _ Hx2.out) (by rfl) ?y27Dx25 ?_
        case y27Dx25 => rintro w ⟨s0, s1, s2, s3, s4, s5, s6, s7, s8, s9, s10, s11, s12, s13, s14⟩; go_simp; with_reducible rfl
        simp only [aP, aN, aT, aZ, aS]
        refine tG 26 (rg 32 35) rfl (HSS.out _ Hx2.out) (yieldsIf_load_mid (by rfl) 39 _ rfl g3 (o3 + i * 11) (by rfl) (vcells ay.sc zA zc zA1 ay.keys.length zc1 zA2 ay.kids.length zc2) _ (fun w' h => h.2.2.2.2.2.2.2.2.2.2.2.2.2.1) Tryz.underlying39 rfl hi39) ?_
        simp only [aP, aN, aT, aZ, aS]
        refine tV 27 (ix [28, 30, 31, 32, 33, 34, 35]) (v := ?v27Dx27) rfl (HSS.out _ Hx2.out) (by rfl) ?y27Dx27 ?_
        case y27Dx27 => rintro w ⟨s0, s1, s2, s3, s4, s5, s6, s7, s8, s9, s10, s11, s12, s13, s14⟩; go_simp; with_reducible rfl
        simp only [aP, aN, aT, aZ, aS]
        refine tV 28 (rg 30 35) (v := ?v27Dx28) rfl (HSS.out _ Hx2.out) (by rfl) ?y27Dx28 ?_
        case y27Dx28 => rintro w ⟨s0, s1, s2, s3, s4, s5, s6, s7, s8, s9, s10, s11, s12, s13, s14⟩; go_simp; with_reducible rfl
        simp only [aP, aN, aT, aZ, aS]
        refine tV 29 (rg 30 35) (v := ?v27Dx29) rfl (HSS.out _ Hx2.out) (by rfl) ?y27Dx29 ?_
        case y27Dx29 => rintro w ⟨s0, s1, s2, s3, s4, s5, s6, s7, s8, s9, s10, s11, s12, s13, s14⟩; go_simp; with_reducible rfl
        simp only [aP, aN, aT, aZ, aS]
        refine tV 30 (rg 31 35) (v := ?v27Dx30) rfl (HSS.out _ Hx2.out) (by rfl) ?y27Dx30 ?_
        case y27Dx30 => rintro w ⟨s0, s1, s2, s3, s4, s5, s6, s7, s8, s9, s10, s11, s12, s13, s14⟩; go_simp; with_reducible rfl
        simp only [aP, aN, aT, aZ, aS]
        refine tG 31 (rg 32 35) rfl (HSS.out _ Hx2.out) (yieldsIf_load_mid (by rfl) 39 _ rfl g4 (o4 + j * 11) (by rfl) (vcells by_.sc vA vc vA1 by_.keys.length vc1 vA2 by_.kids.length vc2) _ (fun w' h => h.2.2.2.2.2.2.2.2.2.2.2.2.2.2) Tryz.underlying39 rfl hi39) ?_
        simp only [aP, aN, aT, aZ, aS]
        refine wpAnyK_oneg 32 (by kernel_rfl) rfl (by rfl) (fun K' hK => ?_)
        go_simp
        refine (Hc2.out _ Hx2.out).mono ?_
        rintro e w3 ⟨b3, rfl, -, he3⟩
        have Hx3 := Lib.hid (Hx2.out.trans he3)
        clear he3
        refine hK.out _ _ (fun h => absurd h (by decide)) ?_
        clear hK K'
        simp only [aP, aN, aT, aZ, aS]
        refine fV 33 (v := ?v27Dx33) rfl (by rfl) ?y27Dx33 ?_
        case y27Dx33 => intro w; go_simp; with_reducible rfl
        simp only [aP, aN, aT, aZ, aS]
        refine fV 34 (v := ?v27Dx34) rfl (by rfl) ?y27Dx34 ?_
        case y27Dx34 => intro w; go_simp; with_reducible rfl
        simp only [aP, aN, aT, aZ, aS]
        refine fV 35 (v := ?v27Dx35) rfl (by rfl) ?y27Dx35 ?_
        case y27Dx35 => intro w; go_simp; with_reducible rfl
        simp only [aP, aN, aT, aZ, aS]
        refine wpAnyK_done (by kernel_rfl) ?_ _
        cases b3 with
        |false =>
         go_wp2_with fail
         go_roundw
         case rel => exact ⟨false, j + 1, rfl, by omega, by go_num, Hx3.out⟩
         case measure => simp [intOf]; omega
        |true =>
         go_wp2_with fail
         go_roundw
         case rel => exact ⟨true, j + 1, rfl, by omega, by go_num, Hx3.out⟩
         case measure => simp [intOf]; omega
     ·cases fb with
      |false =>
       go_wp2_with fail
       go_ret
       exact AnsB.mk trivial HX2.out
      |true =>
       go_wp2_with fail
       go_roundw
       case rel => exact ⟨i + 1, by omega, by go_num, HW2.out⟩
       case measure => simp [intOf]; omega
   ·go_wp2_with fail
    go_ret
    exact AnsB.mk trivial HX.out
 ·have hq : ((V.keys.length : Int) != U.keys.length) = true := by simp; omega
  clear hlen
  go_wp2_with fail
  go_ret
  exact AnsB.mk trivial HE.out
set_option maxRecDepth 100000 in
theorem same_nul (m m2 m3 : Nat) (w : World) (tv : Value) (T : Ty) (vs us : List Value) (V U : Vl) (hT : TyAt (fun _ => False) m w tv T) (hV : VlAt (fun _ => False) m2 w vs V) (hU : VlAt (fun _ => False) m3 w us U) (h : V.sc.nul = true ∨ U.sc.nul = true) :
  Calls Tryz.prog 45 #[tv, .agg vs.toArray, .agg us.toArray] w (AnsB (fun _ => True) w) := by
 obtain ⟨B, bc, B', bc', rfl⟩ := hT.form
 obtain ⟨A, c, A1, c1, A2, c2, rfl, hs⟩ := hV.form
 obtain ⟨uA, uc, uA1, uc1, uA2, uc2, rfl, hs'⟩ := hU.form
 clear hT hV hU hs hs'
 simp only [vcells]
 cases hv : V.sc.nul with
 |true =>
  go_enter Tryz.func45, Tryz.ntmps45
  go_wp2_with fail
  go_ret
  exact AnsB.mk trivial ((((Ext.refl w).alloc _).alloc _).alloc _)
 |false =>
  have hu : U.sc.nul = true := h.resolve_left (by rw [hv]; exact Bool.false_ne_true)
  rw [hu]
  go_enter Tryz.func45, Tryz.ntmps45
  go_wp2_with fail
  go_ret
  exact AnsB.mk trivial ((((Ext.refl w).alloc _).alloc _).alloc _)
/-- Same answers. -/
theorem same_any : ∀ n, n ≤ 5 → SameP n
 |0, _ => fun _ _ _ _ _ _ _ _ _ _ _ _ _ hG _ _ => hG.elim
 |n + 1, hn => fun m m2 m3 w tv T vs us V U hT hV hU hG hg hg' => by
  have ih := same_any n (by omega)
  cases hv : V.sc.nul with
  |true => exact same_nul m m2 m3 w tv T vs us V U hT hV hU (.inl hv)
  |false =>
   cases hu : U.sc.nul with
   |true => exact same_nul m m2 m3 w tv T vs us V U hT hV hU (.inr hu)
   |false =>
    have g1 := samF hg hv
    have g2 := samF hg' hu
    by_cases hk : T.kind < 32
    ·exact same_leaf n hn (binary_any (n + 1) hn) m m2 m3 w tv T vs us V U hT hV hU hG hv hu g1 g2 hk
    ·rcases kinds_hi hG.2 hk with h | h | h | h | h
     ·exact same_seq32 n hn ih m m2 m3 w tv T vs us V U hT hV hU hG hv hu g1 g2 h
     ·exact same_map n hn ih m m2 m3 w tv T vs us V U hT hV hU hG hv hu g1 g2 h
     ·exact same_seq34 n hn ih m m2 m3 w tv T vs us V U hT hV hU hG hv hu g1 g2 h
     ·exact same_seq48 n hn ih m m2 m3 w tv T vs us V U hT hV hU hG hv hu g1 g2 h
     ·exact same_seq49 n hn ih m m2 m3 w tv T vs us V U hT hV hU hG hv hu g1 g2 h
end Go.Proofs.YtammjbmfiakbnaaGreatDoor
