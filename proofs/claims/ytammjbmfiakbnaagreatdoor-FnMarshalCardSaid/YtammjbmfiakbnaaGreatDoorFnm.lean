/- A part of the proof that the card of laws.FnMarshal holds. No conditions. -/
import Derived.Test.YtammjbmfiakbnaaGreatDoorM16
import Derived.Test.YtammjbmfiakbnaaGreatDoorM21
import Derived.Test.YtammjbmfiakbnaaGreatDoorMix
import Derived.Test.YtammjbmfiakbnaaGreatDoorBnk
import Derived.Test.YtammjbmfiakbnaaGreatDoorKnx
import Derived.Test.YtammjbmfiakbnaaGreatDoorSam
import Derived.Deep.CutRange
set_option linter.unusedSimpArgs false
set_option linter.unusedVariables false
namespace Go.Proofs.YtammjbmfiakbnaaGreatDoor
open Go.RowKit
/-- The reference's copies of what came in. -/
def Copies (w : World) (T : Ty) (V : Vl) (x y : Value) (W : World) : Prop :=
 ∃ (b5 b6 : Nat) (T' : Ty) (V' : Vl) (B : Option Addr) (bc : Nat) (B' : Option Addr) (bc' : Nat) (A : Option Addr) (c : Nat) (A1 : Option Addr) (c1 : Nat) (A2 : Option Addr) (c2 : Nat),
  x = .pointer (some ⟨b5, 0, none⟩) ∧ y = .pointer (some ⟨b6, 0, none⟩) ∧ Blk W b5 35 #[.int .i64 T'.kind, .slice B T'.kids.length bc, .slice B' T'.names.length bc'] ∧ Blk W b6 39 (vcells V'.sc A c A1 V'.keys.length c1 A2 V'.kids.length c2).toArray ∧
  TyAt (fun _ => False) 9 W (.agg #[.int .i64 T'.kind, .slice B T'.kids.length bc, .slice B' T'.names.length bc']) T' ∧ VlAt (fun _ => False) 9 W (vcells V'.sc A c A1 V'.keys.length c1 A2 V'.kids.length c2) V' ∧ Cut T' T ∧ (V' = Vl.bad ∨ V' = cutAt 8 V) ∧ Ext w W
section
variable {P : Program} {ops : Array Oper} {Q : Exit → Act → World → Prop} {md : Region.Mode} {S : World → Prop} {N : Nat → Bool}
/-- Each of them comes up next. -/
def AllReadyK (P : Program) (md : Region.Mode) (ops : Array Oper) (Q : Exit → Act → World → Prop) (S : World → Prop) (N : Nat → Bool) (fuel : Nat) (listed : Array Bool) (a : Act) (w : World) (rs : List Nat) : Prop :=
 ∀ i ∈ rs, wpOp P ops Q i (fun a' w' => (N i = true → S w') ∧ wpAnyK P md ops Q S N fuel (listed.setIfInBounds i true) a' w') a w
theorem AllReadyK.nil {fuel : Nat} {listed : Array Bool} {a : Act} {w : World} : AllReadyK P md ops Q S N fuel listed a w [] := fun _ h => by cases h
theorem AllReadyK.cons {fuel : Nat} {listed : Array Bool} {a : Act} {w : World} {i : Nat} {o : Oper} {rest : List Oper} {rs : List Nat} (ho : ops.toList.drop i = o :: rest) (hgd : o.guard = none)
  (h : ∀ K' : Act → World → Prop, Shut (∀ a w, (N i = true → S w) → wpAnyK P md ops Q S N fuel (listed.setIfInBounds i true) a w → K' a w) → Oper.wp P o a w K' Q)
  (hs : AllReadyK P md ops Q S N fuel listed a w rs) : AllReadyK P md ops Q S N fuel listed a w (i :: rs) := fun j hj => by
 rcases List.mem_cons.1 hj with rfl | hj
 ·refine wpOp_step (at_of_drop ho) (fun K' hK => ?_)
  have hw : Region.wanted o (yielded ops a.tmps) = true := by simp [Region.wanted, hgd]
  rw [if_pos hw]
  exact h K' (fun a w hS hW => hK a w ⟨hS, hW⟩)
 ·exact hs j hj
theorem wpAnyK_ready {rs : List Nat} {fuel : Nat} {listed : Array Bool} {a : Act} {w : World} (hr : Region.ready md ops listed = rs) (hne : rs ≠ [])
  (h : AllReadyK P md ops Q S N fuel listed a w rs) : wpAnyK P md ops Q S N (fuel + 1) listed a w := ⟨fun h0 => (hne (hr.symm.trans h0)).elim, fun j hj => h j (hr ▸ hj)⟩
end
theorem alloc_step {w wn : World} {t : TypeId} {cs : Array Value} (h : World.alloc w (.cells cs t) = wn) : Ext w wn ∧ Blk wn w.heap.size t cs ∧ w.heap.size + 1 ≤ wn.heap.size := by
 subst h
 exact ⟨(Ext.refl w).alloc _, Blk.new w t cs, by simp⟩
theorem store_step {w0 w wn : World} {b : Nat} {t : TypeId} {cs cs' : Array Value} (h : World.setCells w b 0 cs'.toList = wn) (hb : Blk w b t cs) (hs : cs'.size = cs.size) (h0 : w0.heap.size ≤ b) (hx : Ext w0 w) : Ext w0 wn ∧ Blk wn b t cs' ∧ One w wn b := by
 subst h
 obtain ⟨h1, h2, h3⟩ := setCells_os b cs'.toList 0 w
 exact ⟨setCells_ext h0 _ _ _ hx, by simpa using Blk.setCells (old := cs.toList) (vs := cs'.toList) (by simpa using hb) (by simpa using hs.symm), ⟨h1, h2, h3, Nat.le_of_eq (setCells_size _ _ _ _).symm, fun k _ hk => setCells_heap _ _ _ _ _ hk⟩⟩
theorem tyAfter {X : Nat → Prop} {w : World} {v : Value} {T : Ty} (h : TyAt X 9 w v T) : TyAt (fun b => X b ∨ w.heap.size ≤ b) 9 w v T := TyAt.weak (fun _ hb => hb) _ _ _ h
theorem vlAfter {X : Nat → Prop} {w : World} {v : List Value} {V : Vl} (h : VlAt X 9 w v V) : VlAt (fun b => X b ∨ w.heap.size ≤ b) 9 w v V := VlAt.weak (fun _ hb => hb) _ _ _ h
theorem hi35 : (Tryz.prog.info? 35).map (·.size) = some 3 := by kernel_rfl
theorem hi25 : (Tryz.prog.info? 25).map (·.size) = some 3 := by kernel_rfl
set_option maxRecDepth 100000 in
set_option maxHeartbeats 4000000 in
theorem fnMarshal_any (v : Value) (T : Ty) (vs : List Value) (V : Vl) (w : World) (h : TyIn w v T) (hV : VlIn w vs V) (hE : EofAt w) :
  Calls Tryz.prog 3 #[v, .agg vs.toArray] w fun e w' => e = .returned (.bool true) ∧ Ext w w' := by
 obtain ⟨m, h⟩ := h
 obtain ⟨m2, hV⟩ := hV
 obtain ⟨A, c, A', c', rfl⟩ := h.form
 obtain ⟨vA, vc, vA1, vc1, vA2, vc2, rfl, -⟩ := hV.form
 have H := Lib.hid h
 have HV := Lib.hid hV
 have HE := Lib.hid hE
 clear h hV hE
 simp only [vcells] at HV ⊢
 go_enter Tryz.func3, Tryz.ntmps3
 go_wp2_with fail
 generalize hW : World.alloc (World.alloc w _) _ = W
 have h0 : Blk W w.heap.size 25 #[.int .i64 T.kind, .slice A T.kids.length c, .slice A' T.names.length c'] ∧ Blk W (w.heap.size + 1) 30 #[.bool V.sc.nul, .int .i64 V.sc.n, .float .f64 V.sc.f, .string V.sc.text, .slice vA V.sc.data.length vc, .int .i64 V.sc.scale, .int .i64 V.sc.months, .int .i64 V.sc.days, .int .i64 V.sc.nanos, .slice vA1 V.keys.length vc1, .slice vA2 V.kids.length vc2] ∧ Ext w W := by
  rw [← hW]
  exact ⟨(Blk.new w 25 _).alloc _, Blk.new' _ _ 30 _ (by simp), ((Ext.refl w).alloc _).alloc _⟩
 clear hW
 obtain ⟨hb1, hb2, hx0⟩ := h0
 have HB1 := Lib.hid hb1
 have HB2 := Lib.hid hb2
 have HX0 := Lib.hid hx0
 have h1 := Lib.hid (fits1_any _ m _ T W (TyAt.onx (Onx.of_ext hx0 _) _ _ _ H.out))
 clear hb1 hb2 hx0
 refine h1.out.mono ?_
 rintro e w1 ⟨b, rfl, -, hx1⟩
 have HX1 := Lib.hid hx1
 clear hx1
 cases b
 ·go_wp2_with fail
  go_ret
  exact ⟨rfl, HX0.out.trans HX1.out⟩
 obtain ⟨d0, d1, d2, d3, d4, d5, d6, d7, d8, d9, d10⟩ := (HB2.out.ext HX1.out).c11
 have h2 := Lib.hid (fits3_any _ m2 _ V w1 (VlAt.onx (Onx.of_ext (HX0.out.trans HX1.out) _) _ _ _ HV.out))
 go_wp2_with fail
 refine h2.out.mono ?_
 rintro e w2 ⟨b, rfl, -, hx2⟩
 have HX2 := Lib.hid (HX1.out.trans hx2)
 clear hx2 d0 d1 d2 d3 d4 d5 d6 d7 d8 d9 d10
 cases b
 ·go_wp2_with fail
  go_ret
  exact ⟨rfl, HX0.out.trans HX2.out⟩
 have HB1' := Lib.hid (HB1.out.ext HX2.out)
 have HB2' := Lib.hid (HB2.out.ext HX2.out)
 have Hk := Lib.hid (fun (X : Nat → Prop) W (he : Ext w2 W) (hX : ∀ b, X b → w2.heap.size ≤ b ∧ b < W.heap.size) => kindX_any X _ T W (fun b hb => (hX b hb).2) ⟨m, TyAt.onx (Onx.of_ext he _) _ _ _ (TyAt.weak (fun b hb => .inr (hX b hb).1) _ _ _ (TyAt.onx (Onx.of_ext (HX0.out.trans HX2.out) _) _ _ _ H.out))⟩)
 have Hv := Lib.hid (fun (X : Nat → Prop) W (he : Ext w2 W) (hX : ∀ b, X b → w2.heap.size ≤ b ∧ b < W.heap.size) => valueX_any X _ V W (fun b hb => (hX b hb).2) ⟨m2, VlAt.onx (Onx.of_ext he _) _ _ _ (VlAt.weak (fun b hb => .inr (hX b hb).1) _ _ _ (VlAt.onx (Onx.of_ext (HX0.out.trans HX2.out) _) _ _ _ HV.out))⟩)
 go_upto_region 3 with fail
 go_cut [5, 6] from 18 to 21 (fun x y W => Copies w2 T V x y W)
 case first =>
  rename_i hJ hM
  refine wp_region_K (fun W' => Ext w2 W') (rg 0 5) 8 [false, false, false, false, false, false, false, false] (by kernel_rfl) rfl rfl ?_
  refine tG 0 (ix [6, 7]) rfl (Ext.refl w2).drew (yieldsIf_load_mid (by rfl) 25 _ rfl w.heap.size 0 (by rfl) [.int .i64 T.kind, .slice A T.kids.length c, .slice A' T.names.length c'] _ (fun w' h => Blk.range (HB1'.out.ext h)) Tryz.underlying25 rfl hi25) ?_
  simp only [aP, aN, aT, aZ, aS]
  refine tG 2 (ix [3, 6, 7]) rfl (Ext.refl w2).drew (yieldsIf_load_mid (by rfl) 30 _ rfl (w.heap.size + 1) 0 (by rfl) [.bool V.sc.nul, .int .i64 V.sc.n, .float .f64 V.sc.f, .string V.sc.text, .slice vA V.sc.data.length vc, .int .i64 V.sc.scale, .int .i64 V.sc.months, .int .i64 V.sc.days, .int .i64 V.sc.nanos, .slice vA1 V.keys.length vc1, .slice vA2 V.kids.length vc2] _ (fun w' h => Blk.range (HB2'.out.ext h)) Tryz.underlying30 rfl hi30) ?_
  simp only [aP, aN, aT, aZ, aS]
  have hx := (Ext.refl w2).drew
  generalize hw : w2.drew = wq at hx ⊢
  clear hw HB1' HB2' H HV HB1 HB2 HX0 HX1 HX2 h1 h2
  iterate 4
   all_goals first | refine wpAnyK_ready (rs := [1, 4, 5]) (by decide +kernel) (by decide) ?_ | refine wpAnyK_ready (rs := [3, 4, 5]) (by decide +kernel) (by decide) ?_ | refine wpAnyK_ready (rs := [1, 4]) (by decide +kernel) (by decide) ?_ | refine wpAnyK_ready (rs := [1, 5]) (by decide +kernel) (by decide) ?_ | refine wpAnyK_ready (rs := [3, 4]) (by decide +kernel) (by decide) ?_ | refine wpAnyK_ready (rs := [3, 5]) (by decide +kernel) (by decide) ?_ | refine wpAnyK_ready (rs := [4, 5]) (by decide +kernel) (by decide) ?_ | refine wpAnyK_ready (rs := [1]) (by decide +kernel) (by decide) ?_ | refine wpAnyK_ready (rs := [3]) (by decide +kernel) (by decide) ?_ | refine wpAnyK_ready (rs := [4]) (by decide +kernel) (by decide) ?_ | refine wpAnyK_ready (rs := [5]) (by decide +kernel) (by decide) ?_
   all_goals (repeat' first | exact AllReadyK.nil | refine AllReadyK.cons (by rfl) (by rfl) (fun K' hK => ?_) ?_)
   all_goals go_simp
   all_goals first
    |refine (Hk.out (fun b => w2.heap.size ≤ b ∧ b < wq.heap.size) wq hx (fun b hb => hb)).mono ?_
     rintro e wq ⟨v', T', rfl, hT, hC, hn⟩
     obtain ⟨B, bc, B', bc', rfl⟩ := hT.form
     replace hT := tyAfter hT
     refine hK.out _ _ (fun _ => hx.trans hn) ?_
     clear hK K'
     simp only [aP, aN, aT, aZ, aS]
     have hz1 := hn.size
     have hz2 := hx.size
     try replace h5 := h5.ext hn
     try replace h6 := h6.ext hn
     replace hx := hx.trans hn
     clear hn
    |refine (Hv.out (fun b => w2.heap.size ≤ b ∧ b < wq.heap.size) wq hx (fun b hb => hb)).mono ?_
     rintro e wq ⟨v', V', rfl, hV', hVc, hn⟩
     obtain ⟨vB, vbc, vB1, vbc1, vB2, vbc2, rfl, -⟩ := hV'.form
     replace hV' := vlAfter hV'
     refine hK.out _ _ (fun _ => hx.trans hn) ?_
     clear hK K'
     simp only [vcells] at hV'
     simp only [aP, aN, aT, aZ, aS]
     have hz1 := hn.size
     have hz2 := hx.size
     try replace h5 := h5.ext hn
     try replace h6 := h6.ext hn
     try replace hT := TyAt.onx (Onx.of_ext hn _) _ _ _ hT
     replace hx := hx.trans hn
     clear hn
    |refine hK.out _ (World.alloc wq (Obj.cells #[.int .i64 0, .slice none 0 0, .slice none 0 0] 35)) (fun _ => hx.alloc _) ?_
     clear hK K'
     generalize hw : World.alloc wq _ = wq
     obtain ⟨hn, h5, hz1⟩ := alloc_step hw
     clear hw
     have hz2 := hx.size
     try replace h6 := h6.ext hn
     try replace hT := TyAt.onx (Onx.of_ext hn _) _ _ _ hT
     try replace hV' := VlAt.onx (Onx.of_ext hn _) _ _ _ hV'
     replace hx := hx.trans hn
     clear hn
    |refine hK.out _ (World.alloc wq (Obj.cells #[.bool false, .int .i64 0, .float .f64 0, .string ⟨#[]⟩, .slice none 0 0, .int .i64 0, .int .i64 0, .int .i64 0, .int .i64 0, .slice none 0 0, .slice none 0 0] 39)) (fun _ => hx.alloc _) ?_
     clear hK K'
     generalize hw : World.alloc wq _ = wq
     obtain ⟨hn, h6, hz1⟩ := alloc_step hw
     clear hw
     have hz2 := hx.size
     try replace h5 := h5.ext hn
     try replace hT := TyAt.onx (Onx.of_ext hn _) _ _ _ hT
     try replace hV' := VlAt.onx (Onx.of_ext hn _) _ _ _ hV'
     replace hx := hx.trans hn
     clear hn
  all_goals
   refine wpAnyK_ready (rs := [6]) (by kernel_rfl) (by decide) (AllReadyK.cons (by rfl) (by rfl) (fun K' hK => ?_) AllReadyK.nil)
   refine wp_store_mid 35 _ _ rfl _ 0 #[.int .i64 T'.kind, .slice B T'.kids.length bc, .slice B' T'.names.length bc'] (by rfl) (by rfl) (h5.there rfl) hi35 (by simp [Value.oneCell']) ?_
   refine hK.out _ _ (fun h => absurd h (by decide)) ?_
   clear hK K'
   simp only [aP, aN, aT, aZ, aS]
   generalize hw : World.setCells wq _ _ _ = wq
   obtain ⟨hx, h5, ho⟩ := store_step hw h5 rfl (by omega) hx
   clear hw
   replace h6 := ho.blk h6 (by omega)
   replace hT := TyAt.onx (ho.onx (by omega)) _ _ _ hT
   replace hV' := VlAt.onx (ho.onx (by omega)) _ _ _ hV'
   clear ho
  all_goals
   refine wpAnyK_ready (rs := [7]) (by kernel_rfl) (by decide) (AllReadyK.cons (by rfl) (by rfl) (fun K' hK => ?_) AllReadyK.nil)
   refine wp_store_mid 39 _ _ rfl _ 0 #[.bool V'.sc.nul, .int .i64 V'.sc.n, .float .f64 V'.sc.f, .string V'.sc.text, .slice vB V'.sc.data.length vbc, .int .i64 V'.sc.scale, .int .i64 V'.sc.months, .int .i64 V'.sc.days, .int .i64 V'.sc.nanos, .slice vB1 V'.keys.length vbc1, .slice vB2 V'.kids.length vbc2] (by rfl) (by rfl) (h6.there rfl) hi39 (by simp [Value.oneCell']) ?_
   refine hK.out _ _ (fun h => absurd h (by decide)) ?_
   clear hK K'
   simp only [aP, aN, aT, aZ, aS]
   generalize hw : World.setCells wq _ _ _ = wq
   obtain ⟨hx, h6, ho⟩ := store_step hw h6 rfl (by omega) hx
   clear hw
   replace h5 := ho.blk h5 (by omega)
   replace hT := TyAt.onx (ho.onx (by omega)) _ _ _ hT
   replace hV' := VlAt.onx (ho.onx (by omega)) _ _ _ hV'
   clear ho
  all_goals
   refine wpAnyK_done (by kernel_rfl) ?_ _
   simp only [Exit.then, Act.put, List.setIfInBounds_toArray, List.set_cons_zero, List.set_cons_succ]
   refine hM _ _ (Met.intro (hJ _ _ ?_))
   repeat apply Exists.intro
   refine ⟨?rel, rfl⟩
   case rel => exact ⟨_, _, T', V', B, bc, B', bc', vB, vbc, vB1, vbc1, vB2, vbc2, rfl, rfl, h5, h6, TyAt.weak (fun b hb => hb.elim) _ _ _ hT, VlAt.weak (fun b hb => hb.elim) _ _ _ hV', hC, hVc, hx⟩
 case rest =>
  obtain ⟨b5, b6, T', V', B, bc, B', bc', vB, vbc, vB1, vbc1, vB2, vbc2, rfl, rfl, h5, h6, hT, hV', hC, hVc, hx⟩ := hcut
  have HEc := Lib.hid ((HX0.out.trans HX2.out).trans hx)
  have HB1c := Lib.hid (HB1'.out.ext hx)
  have HB2c := Lib.hid (HB2'.out.ext hx)
  have H5 := Lib.hid h5
  have H6 := Lib.hid h6
  have HT := Lib.hid hT
  have HV' := Lib.hid hV'
  have HC := Lib.hid hC
  have HVc := Lib.hid hVc
  have hf : Calls Tryz.prog 10 #[.agg #[.int .i64 T'.kind, .slice B T'.kids.length bc, .slice B' T'.names.length bc'], .agg #[.bool V'.sc.nul, .int .i64 V'.sc.n, .float .f64 V'.sc.f, .string V'.sc.text, .slice vB V'.sc.data.length vbc, .int .i64 V'.sc.scale, .int .i64 V'.sc.months, .int .i64 V'.sc.days, .int .i64 V'.sc.nanos, .slice vB1 V'.keys.length vbc1, .slice vB2 V'.kids.length vbc2]] wc _ := fits_any 9 9 wc _ T' _ V' hT hV'
  have Hf := Lib.hid hf
  obtain ⟨c0, c1, c2⟩ := h5.c3
  obtain ⟨d0, d1, d2, d3, d4, d5, d6, d7, d8, d9, d10⟩ := h6.c11
  clear h5 h6 hT hV' hC hVc hx hf
  go_wp2_with fail
  refine Hf.out.mono ?_
  rintro e w3 ⟨b, rfl, hg, hx3⟩
  have Hg := Lib.hid hg
  have HX3 := Lib.hid hx3
  clear hg hx3 c0 c1 c2 d0 d1 d2 d3 d4 d5 d6 d7 d8 d9 d10
  cases b
  ·go_wp2_with fail
   refine (works_any _).mono ?_
   rintro e w5 ⟨rfl, he5⟩
   go_wp2_with fail
   go_ret
   exact ⟨rfl, (HEc.out.trans HX3.out).trans he5⟩
  obtain ⟨hG, hGV⟩ := Hg.out rfl
  have HG := Lib.hid hG
  have HGV := Lib.hid hGV
  have hm : Calls Tryz.prog 11 #[.agg #[.int .i64 T'.kind, .slice B T'.kids.length bc, .slice B' T'.names.length bc'], .agg #[.bool V'.sc.nul, .int .i64 V'.sc.n, .float .f64 V'.sc.f, .string V'.sc.text, .slice vB V'.sc.data.length vbc, .int .i64 V'.sc.scale, .int .i64 V'.sc.months, .int .i64 V'.sc.days, .int .i64 V'.sc.nanos, .slice vB1 V'.keys.length vbc1, .slice vB2 V'.kids.length vbc2]] w3 _ := mixed_any 5 (by omega) 9 9 w3 _ T' _ V' (TyAt.onx (Onx.of_ext HX3.out _) _ _ _ HT.out) (VlAt.onx (Onx.of_ext HX3.out _) _ _ _ HV'.out) hG hGV
  have Hm := Lib.hid hm
  obtain ⟨c0, c1, c2⟩ := (H5.out.ext HX3.out).c3
  obtain ⟨d0, d1, d2, d3, d4, d5, d6, d7, d8, d9, d10⟩ := (H6.out.ext HX3.out).c11
  clear hG hGV hm
  go_wp2_with fail
  refine Hm.out.mono ?_
  rintro e w4 ⟨b, rfl, -, hx4⟩
  have HX4 := Lib.hid (HX3.out.trans hx4)
  clear hx4 c0 c1 c2 d0 d1 d2 d3 d4 d5 d6 d7 d8 d9 d10
  cases b
  rotate_left
  ·go_wp2_with fail
   refine (works_any _).mono ?_
   rintro e w5 ⟨rfl, he5⟩
   go_wp2_with fail
   go_ret
   exact ⟨rfl, (HEc.out.trans HX4.out).trans he5⟩
  have hTT : T' = T := cut_good 5 T' T HG.out HC.out
  subst hTT
  have hVV : V' = V := by
   rcases HVc.out with h | h
   ·have := HGV.out.nul
    rw [h] at this
    cases this
   ·exact h.trans (cutAt_good 5 _ 8 V (by omega) (h ▸ HGV.out))
  subst hVV
  have hEe : Ext w w4 := HEc.out.trans HX4.out
  have hmt : Calls Tryz.prog 13 #[.agg #[.int .i64 T'.kind, .slice A T'.kids.length c, .slice A' T'.names.length c'], .agg #[.bool V'.sc.nul, .int .i64 V'.sc.n, .float .f64 V'.sc.f, .string V'.sc.text, .slice vA V'.sc.data.length vc, .int .i64 V'.sc.scale, .int .i64 V'.sc.months, .int .i64 V'.sc.days, .int .i64 V'.sc.nanos, .slice vA1 V'.keys.length vc1, .slice vA2 V'.kids.length vc2]] w4 _ :=
   marshalTop _ _ _ _ _ _ _ _ _ _ _ _ _ _ false (fun I W => InfoAt (fun _ => False) 5 W I T') (fun G W => GivenAt (fun _ => False) 5 W G T' V') (fun r W => Out (enc 5 T' V') r W) w4
    (Lib.hid fun W hW => (info_any 5 (by omega) (fun _ => False) m _ T' W (fun _ h => h.elim) (TyAt.onx (Onx.of_ext (hEe.trans hW) _) _ _ _ H.out) HG.out).mono fun _ _ ⟨te, ve, he, hi, hx⟩ => ⟨_, he, hi, hx⟩)
    (Lib.hid fun W hW => (given_any 5 m m2 W _ T' _ V' (TyAt.onx (Onx.of_ext (hEe.trans hW) _) _ _ _ H.out) (VlAt.onx (Onx.of_ext (hEe.trans hW) _) _ _ _ HV.out) HG.out (.inr HGV.out) (HE.out.ext (hEe.trans hW))).mono fun _ _ ⟨G, he, hg, hx⟩ => ⟨G, he, GivenAt.trans (Trans.weak (fun b hb => hb.elim)) _ _ _ _ hg, hx⟩)
    (Lib.hid fun I G W hW hI hG => (marsh_any 5 (by omega) W I G T' V' (fun _ => False) (fun _ h => h.elim) hI hG HG.out HGV.out (VlAt.ok _ _ _ HV.out 5)).mono fun _ _ ⟨r, he, ⟨ho, _⟩, hx⟩ => ⟨r, he, ho, hx⟩)
    (Lib.hid fun _ _ _ h hx => InfoAt.onx (Onx.of_ext hx _) _ _ _ h) (Lib.hid fun _ _ _ h hk => Out.keep h hk)
    (Lib.hid fun r W h => by
     obtain ⟨b, o, c, rfl, -⟩ := Out.form h
     exact ⟨_, _, _, rfl, rfl⟩)
  have Hmt := Lib.hid hmt
  have HEe := Lib.hid hEe
  obtain ⟨c0, c1, c2⟩ := (HB1c.out.ext HX4.out).c3
  obtain ⟨d0, d1, d2, d3, d4, d5, d6, d7, d8, d9, d10⟩ := (HB2c.out.ext HX4.out).c11
  clear hmt hEe
  go_wp2_with fail
  refine Hmt.out.mono ?_
  rintro e w5 ⟨r, rfl, hr, hx5⟩
  obtain ⟨rb, ro, rc, rfl, -⟩ := Out.form hr
  have HX5 := Lib.hid (HX4.out.trans hx5)
  have HE5 := Lib.hid (HEe.out.trans hx5)
  have HR := Lib.hid hr
  have hbi : ∀ W, Ext w5 W → Calls Tryz.prog 14 #[.agg #[.int .i64 T'.kind, .slice B T'.kids.length bc, .slice B' T'.names.length bc'], .agg #[.bool V'.sc.nul, .int .i64 V'.sc.n, .float .f64 V'.sc.f, .string V'.sc.text, .slice vB V'.sc.data.length vbc, .int .i64 V'.sc.scale, .int .i64 V'.sc.months, .int .i64 V'.sc.days, .int .i64 V'.sc.nanos, .slice vB1 V'.keys.length vbc1, .slice vB2 V'.kids.length vbc2]] W _ := fun W hW => binary_any 5 (by omega) 9 9 W _ T' _ V' (TyAt.onx (Onx.of_ext (HX5.out.trans hW) _) _ _ _ HT.out) (VlAt.onx (Onx.of_ext (HX5.out.trans hW) _) _ _ _ HV'.out) HG.out HGV.out
  have HBi := Lib.hid hbi
  clear hx5 hr hbi c0 c1 c2 d0 d1 d2 d3 d4 d5 d6 d7 d8 d9 d10
  obtain ⟨c0, c1, c2⟩ := (H5.out.ext HX5.out).c3
  obtain ⟨d0, d1, d2, d3, d4, d5, d6, d7, d8, d9, d10⟩ := (H6.out.ext HX5.out).c11
  have hs1 : ∀ W, Ext w5 W → (convert 27 9 (.slice (some ⟨rb, ro, none⟩) (enc 5 T' V').length rc)).run Tryz.prog W = .ok (.string ⟨(enc 5 T' V').toArray⟩) W := fun W hW => conv_out (HR.out.ext hW).bytes
  have hsA := hs1 w5.drew (Ext.refl w5).drew
  have HS1 := Lib.hid hs1
  clear hs1
  go_upto_region 7 with fail
  go_region_with (first | (refine (HBi.out _ (by first | exact (Ext.refl w5).drew | exact Ext.refl w5)).mono ?_; rintro e w6 ⟨r2, rfl, hO⟩; obtain ⟨zA, zc, rfl, -⟩ := ownB_slice hO.1; have hx6 : Ext w5 w6 := (Ext.refl w5).drew.trans hO.2; have hsB := HS1.out w6 hx6; have hsC := conv_out (own_bytes hO.1); have HX6 := Lib.hid hx6; clear hO hx6) | (refine (works_any _).mono ?_; rintro e w7 ⟨rfl, he7⟩))
  all_goals
   go_wp2_with fail
   go_ret
   exact ⟨rfl, (HE5.out.trans HX6.out).trans he7⟩
end Go.Proofs.YtammjbmfiakbnaaGreatDoor
