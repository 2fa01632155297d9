/-
  The law of nothing: what it answers is true. Condition: the type lies in memory.
-/
import Derived.Test.YtammjbmfiakbnaaGreatDoorInf
import Derived.Test.YtammjbmfiakbnaaGreatDoorKwn
import Derived.Test.YtammjbmfiakbnaaGreatDoorNils
namespace Go.Proofs.YtammjbmfiakbnaaGreatDoor
open Go.RowKit

/-- Nothing. -/
def NilP (r : Value) (_ : World) : Prop := r = .slice none 0 0
theorem gives_nil {F : FuncId} {info : Value} (h : ∀ w, Calls Tryz.prog F #[info, .nilIface] w fun e w' => e = .returned (.tuple #[.slice none 0 0, .nilIface]) ∧ Ext w w') (w : World) : Hid (Gives F info .nilIface w NilP) :=
  Lib.hid fun W _ => (h W).mono fun _ _ ⟨he, hx⟩ => ⟨_, he, rfl, hx⟩

theorem marsh_nil {X : Nat → Prop} {n : Nat} {W : World} {I : Value} {T : Ty} (h : InfoAt X n W I T) (h49 : T.kind ≠ 49) (h48 : T.kind ≠ 48) :
    Calls Tryz.prog 27 #[I, .nilIface] W fun e w' => ∃ r, e = .returned (.tuple #[r, .nilIface]) ∧ NilP r w' ∧ Ext W w' := by
  cases n with
  | zero => exact h.elim
  | succ n =>
    rcases h with ⟨g1, g2, g3, g4, rfl⟩ | ⟨h, t, te, ve, h1, rfl, h3⟩ | ⟨h, t, t', te, ve, te', ve', h1, rfl, h3, h4⟩ | ⟨h, A, c, is, h1, h2, h3, h4, h5⟩ | ⟨h, A, c, is, h1, h2, h3, h4, h5⟩
    · have hk : T.kind = 1 ∨ T.kind = 2 ∨ T.kind = 3 ∨ T.kind = 4 ∨ T.kind = 5 ∨ T.kind = 6 ∨ T.kind = 7 ∨ T.kind = 8 ∨ T.kind = 9 ∨ T.kind = 11 ∨ T.kind = 12 ∨ T.kind = 13 ∨ T.kind = 14 ∨ T.kind = 15 ∨ T.kind = 16 ∨ T.kind = 17 ∨ T.kind = 18 ∨ T.kind = 19 ∨ T.kind = 20 ∨ T.kind = 21 := by omega
      generalize T.kind = k at hk
      rcases hk with rfl | rfl | rfl | rfl | rfl | rfl | rfl | rfl | rfl | rfl | rfl | rfl | rfl | rfl | rfl | rfl | rfl | rfl | rfl | rfl
      · exact disp_1 94 (natT 1) _ W NilP (fun W => me_94_Version _ _ _ W) (fun W => me_94_Type _ _ _ W) as_n_128 (gives_nil (fun w => nil_52 _ w) W)
      · exact disp_2 94 (natT 2) _ W NilP (fun W => me_94_Version _ _ _ W) (fun W => me_94_Type _ _ _ W) as_n_128 (gives_nil (fun w => nil_57 _ w) W)
      · exact disp_3 94 (natT 3) _ W NilP (fun W => me_94_Version _ _ _ W) (fun W => me_94_Type _ _ _ W) as_n_128 (gives_nil (fun w => nil_52 _ w) W)
      · exact disp_4 94 (natT 4) _ W NilP (fun W => me_94_Version _ _ _ W) (fun W => me_94_Type _ _ _ W) as_n_128 (gives_nil (fun w => nil_53 _ w) W)
      · exact disp_5 94 (natT 5) _ W NilP (fun W => me_94_Version _ _ _ W) (fun W => me_94_Type _ _ _ W) as_n_128 (gives_nil (fun w => nil_57 _ w) W)
      · exact disp_6 94 (natT 6) _ W NilP (fun W => me_94_Version _ _ _ W) (fun W => me_94_Type _ _ _ W) as_n_128 (gives_nil (fun w => nil_60 _ w) W)
      · exact disp_7 94 (natT 7) _ W NilP (fun W => me_94_Version _ _ _ W) (fun W => me_94_Type _ _ _ W) as_n_128 (gives_nil (fun w => nil_59 _ w) W)
      · exact disp_8 94 (natT 8) _ W NilP (fun W => me_94_Version _ _ _ W) (fun W => me_94_Type _ _ _ W) as_n_128 (gives_nil (fun w => nil_58 _ w) W)
      · exact disp_9 94 (natT 9) _ W NilP (fun W => me_94_Version _ _ _ W) (fun W => me_94_Type _ _ _ W) as_n_128 (gives_nil (fun w => nil_56 _ w) W)
      · exact disp_11 94 (natT 11) _ W NilP (fun W => me_94_Version _ _ _ W) (fun W => me_94_Type _ _ _ W) as_n_128 (gives_nil (fun w => nil_62 _ w) W)
      · exact disp_12 94 (natT 12) _ W NilP (fun W => me_94_Version _ _ _ W) (fun W => me_94_Type _ _ _ W) as_n_128 (gives_nil (fun w => nil_65 _ w) W)
      · exact disp_13 94 (natT 13) _ W NilP (fun W => me_94_Version _ _ _ W) (fun W => me_94_Type _ _ _ W) as_n_128 (gives_nil (fun w => nil_52 _ w) W)
      · exact disp_14 94 (natT 14) _ W NilP (fun W => me_94_Version _ _ _ W) (fun W => me_94_Type _ _ _ W) as_n_128 (gives_nil (fun w => nil_66 _ w) W)
      · exact disp_15 94 (natT 15) _ W NilP (fun W => me_94_Version _ _ _ W) (fun W => me_94_Type _ _ _ W) as_n_128 (gives_nil (fun w => nil_65 _ w) W)
      · exact disp_16 94 (natT 16) _ W NilP (fun W => me_94_Version _ _ _ W) (fun W => me_94_Type _ _ _ W) as_n_128 (gives_nil (fun w => nil_67 _ w) W)
      · exact disp_17 94 (natT 17) _ W NilP (fun W => me_94_Version _ _ _ W) (fun W => me_94_Type _ _ _ W) as_n_128 (gives_nil (fun w => nil_70 _ w) W)
      · exact disp_18 94 (natT 18) _ W NilP (fun W => me_94_Version _ _ _ W) (fun W => me_94_Type _ _ _ W) as_n_128 (gives_nil (fun w => nil_61 _ w) W)
      · exact disp_19 94 (natT 19) _ W NilP (fun W => me_94_Version _ _ _ W) (fun W => me_94_Type _ _ _ W) as_n_128 (gives_nil (fun w => nil_55 _ w) W)
      · exact disp_20 94 (natT 20) _ W NilP (fun W => me_94_Version _ _ _ W) (fun W => me_94_Type _ _ _ W) as_n_128 (gives_nil (fun w => nil_54 _ w) W)
      · exact disp_21 94 (natT 21) _ W NilP (fun W => me_94_Version _ _ _ W) (fun W => me_94_Type _ _ _ W) as_n_128 (gives_nil (fun w => nil_71 _ w) W)
    · generalize T.kind = k at h
      rcases h with rfl | rfl
      · exact disp_32 98 _ _ W NilP (fun W => me_98_Version _ _ _ _ _ W) (fun W => me_98_Type _ _ _ _ _ W) as_n_128 (gives_nil (fun w => nil_63 32 te ve w) W)
      · exact disp_34 98 _ _ W NilP (fun W => me_98_Version _ _ _ _ _ W) (fun W => me_98_Type _ _ _ _ _ W) as_n_128 (gives_nil (fun w => nil_63 34 te ve w) W)
    · exact disp_33 98 _ _ W NilP (fun W => me_98_Version _ _ _ _ _ W) (fun W => me_98_Type _ _ _ _ _ W) as_n_128 (gives_nil (fun w => nil_64 33 te te' ve ve' w) W)
    · exact (h49 h).elim
    · exact (h48 h).elim

set_option maxRecDepth 100000 in
theorem given_null (t0 t1 t2 v1 v2 v3 v4 v5 v6 v7 v8 v9 v10 : Value) (w : World) :
    Calls Tryz.prog 26 #[.agg #[t0, t1, t2], .agg #[.bool true, v1, v2, v3, v4, v5, v6, v7, v8, v9, v10]] w fun e w' => e = .returned (.tuple #[.nilIface, .bool true]) ∧ Ext w w' := by
  go_enter Tryz.func26, Tryz.ntmps26
  go_wp2_with fail
  go_ret2
  exact ⟨rfl, ((Ext.refl w).alloc _).alloc _⟩

set_option maxRecDepth 100000 in
theorem fnNull_any (v : Value) (T : Ty) (w : World) (h : TyIn w v T) :
    Calls Tryz.prog 4 #[v] w fun e w' => e = .returned (.bool true) ∧ Ext w w' := by
  obtain ⟨m, h⟩ := h
  obtain ⟨A, c, A', c', rfl⟩ := h.form
  have H := Lib.hid h
  have hE1 : Ext w (w.alloc (.cells #[.int .i64 T.kind, .slice A T.kids.length c, .slice A' T.names.length c'] 25)) := (Ext.refl w).alloc _
  have h1 := fits1_any _ m _ T _ (TyAt.onx (Onx.of_ext hE1 _) _ _ _ h)
  have H1 := Lib.hid h1
  have HE1 := Lib.hid hE1
  clear h h1 hE1
  go_enter Tryz.func4, Tryz.ntmps4
  go_wp2_with fail
  refine H1.out.mono ?_
  rintro e w2 ⟨b, rfl, _, he2⟩
  have hE2 := HE1.out.trans he2
  have hB2 := (Blk.new w 25 #[.int .i64 T.kind, .slice A T.kids.length c, .slice A' T.names.length c']).ext he2
  obtain ⟨c0, c1, c2⟩ := hB2.c3
  have h2 := kind_any _ T w2 ⟨m, TyAt.onx (Onx.of_ext hE2 _) _ _ _ H.out⟩
  have H2 := Lib.hid h2
  have HE2 := Lib.hid hE2
  have HB2 := Lib.hid hB2
  clear he2 hE2 hB2 h2
  cases b
  · go_wp2_with fail
    go_ret
    exact ⟨rfl, HE2.out⟩
  · go_wp2_with fail
    refine H2.out.mono ?_
    rintro e w3 ⟨v', T', rfl, ht', hc', he3⟩
    obtain ⟨zA, zc, zA', zc', rfl⟩ := ht'.form
    have h3 : Calls Tryz.prog 15 #[.agg #[.int .i64 T'.kind, .slice zA T'.kids.length zc, .slice zA' T'.names.length zc'], .int .i64 5] w3 _ := known_any 5 (by omega) _ _ T' w3 ht'
    have H3 := Lib.hid h3
    have HE3 := Lib.hid (HE2.out.trans he3)
    have HB3 := Lib.hid (HB2.out.ext he3)
    have Hc := Lib.hid hc'
    clear ht' h3 he3 c0 c1 c2 hc'
    go_wp2_with fail
    refine H3.out.mono ?_
    rintro e w4 ⟨b, rfl, hgood, he4⟩
    have HE4 := Lib.hid (HE3.out.trans he4)
    have hB4 := HB3.out.ext he4
    obtain ⟨c0, c1, c2⟩ := hB4.c3
    have Hg := Lib.hid hgood
    clear he4 hB4 hgood
    cases b
    · go_wp2_with fail
      refine (works_any _).mono ?_
      rintro e w5 ⟨rfl, he5⟩
      go_wp2_with fail
      go_ret
      exact ⟨rfl, HE4.out.trans he5⟩
    · have hT : T' = T := cut_good 5 T' T (Hg.out rfl) Hc.out
      have hgT : Good 5 T := hT ▸ Hg.out rfl
      have HgT := Lib.hid hgT
      clear hT hgT
      by_cases k49 : T.kind = 49
      · have t1 : (T.kind == 49) = true := by simp [k49]
        clear k49
        go_wp2_with fail
        refine (works_any _).mono ?_
        rintro e w5 ⟨rfl, he5⟩
        go_wp2_with fail
        go_ret
        exact ⟨rfl, HE4.out.trans he5⟩
      · have t1 : (T.kind == 49) = false := by simp [k49]
        have K49 := Lib.hid k49
        clear k49
        by_cases k48 : T.kind = 48
        · have t2 : (T.kind == 48) = true := by simp [k48]
          clear k48
          go_wp2_with fail
          refine (works_any _).mono ?_
          rintro e w5 ⟨rfl, he5⟩
          go_wp2_with fail
          go_ret
          exact ⟨rfl, HE4.out.trans he5⟩
        · have t2 : (T.kind == 48) = false := by simp [k48]
          have K48 := Lib.hid k48
          clear k48
          have hm := marshalTop (.int .i64 T.kind) (.slice A T.kids.length c) (.slice A' T.names.length c') (.bool true) (.int .i64 0) (.float .f64 0) (.string ⟨#[]⟩) (.slice none 0 0) (.int .i64 0) (.int .i64 0) (.int .i64 0) (.int .i64 0) (.slice none 0 0) (.slice none 0 0) true
            (fun I W => InfoAt (fun _ => False) 5 W I T) (fun G _ => G = .nilIface) NilP w4
            (Lib.hid fun W hW => (info_any 5 (by omega) (fun _ => False) m _ T W (fun _ h => h.elim) (TyAt.onx (Onx.of_ext (HE4.out.trans hW) _) _ _ _ H.out) HgT.out).mono fun _ _ ⟨te, ve, he, hi, hx⟩ => ⟨_, he, hi, hx⟩)
            (Lib.hid fun W _ => (given_null _ _ _ _ _ _ _ _ _ _ _ _ _ W).mono fun _ _ ⟨he, hx⟩ => ⟨_, he, rfl, hx⟩)
            (Lib.hid fun I G W _ hI hG => by subst hG; exact marsh_nil hI K49.out K48.out)
            (Lib.hid fun _ _ _ h hx => InfoAt.onx (Onx.of_ext hx _) _ _ _ h) (Lib.hid fun _ _ _ h _ => h) (Lib.hid fun r _ h => ⟨none, 0, 0, h, rfl⟩)
          have Hm := Lib.hid hm
          clear hm
          go_wp2_with fail
          refine Hm.out.mono ?_
          rintro e w5 ⟨r, rfl, hr, he5⟩
          have HE5 := Lib.hid (HE4.out.trans he5)
          clear he5 hr
          go_wp2_with fail
          refine (works_any _).mono ?_
          rintro e w6 ⟨rfl, he6⟩
          go_wp2_with fail
          go_ret
          exact ⟨rfl, HE5.out.trans he6⟩
end Go.Proofs.YtammjbmfiakbnaaGreatDoor
