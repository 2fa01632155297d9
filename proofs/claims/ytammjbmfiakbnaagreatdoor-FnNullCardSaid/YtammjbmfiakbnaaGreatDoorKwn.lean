/-
  spec.Known: what it says yes to is a known type. Condition: the type lies in memory.
-/
import Derived.Test.YtammjbmfiakbnaaGreatDoorKnd
namespace Go.Proofs.YtammjbmfiakbnaaGreatDoor
open Go.RowKit

theorem beq_tt {a b : Int} (h : a = b) : (a == b) = true := by simp [h]
theorem beq_ff {a b : Int} (h : ¬ a = b) : (a == b) = false := by simp [h]

set_option maxRecDepth 100000 in
set_option maxHeartbeats 1000000 in
theorem known_any : ∀ (d : Nat), d ≤ 8 → ∀ (m : Nat) (v : Value) (T : Ty) (w : World), TyAt (fun _ => False) m w v T →
    Calls Tryz.prog 15 #[v, .int .i64 d] w (AnsB (fun b => b = true → Good d T) w) := by
  intro d hd8
  induction d with
  | zero =>
    intro m v T w hT
    obtain ⟨A, c, A', c', rfl⟩ := hT.form
    clear hT
    go_enter Tryz.func15, Tryz.ntmps15
    go_wp2_with fail
    go_ret
    exact AnsB.mk (by simp) ((Ext.refl _).alloc _)
  | succ d ih =>
    intro m v T w hT
    cases m with
    | zero => exact hT.elim
    | succ m =>
      obtain ⟨A, c, A', c', cs, rfl, h1, h2, h3, h4, hnb, h5, h6, h7, h8⟩ := hT
      unfold maxLen at h2 h4
      have H5 := Lib.hid h5
      have H6 := Lib.hid h6
      have H7 := Lib.hid h7
      have H8 := Lib.hid h8
      have Hnb := Lib.hid hnb
      have IH := Lib.hid ih
      have hdb : (((d : Int) + 1) == 0) = false := beq_ff (by omega)
      have hwd : IntKind.i64.wrap (d : Int) = d := IntWalk.i64_in _ (by omega)
      clear h5 h6 h7 h8 hnb ih
      rw [show ((d + 1 : Nat) : Int) = (d : Int) + 1 from by omega]
      go_enter Tryz.func15, Tryz.ntmps15
      go_wp2_with fail
      generalize hWa : World.alloc _ _ = wa
      have hBa : Blk wa w.heap.size 35 #[.int .i64 T.kind, .slice A T.kids.length c, .slice A' T.names.length c'] := hWa ▸ Blk.new w 35 _
      have hEa : Ext w wa := hWa ▸ (Ext.refl w).alloc _
      have HBa := Lib.hid hBa
      have HEa := Lib.hid hEa
      clear hWa hBa hEa
      go_loopw [16] (fun v wr => ∃ i : Nat, i ≤ T.kids.length ∧ v = .int .i64 i ∧ Ext wa wr ∧ ∀ j t, j < i → T.kids[j]? = some t → Good d t) (fun v _ => T.kids.length - (intOf v).toNat)
      case atStart => exact ⟨0, Nat.zero_le _, rfl, Ext.refl _, fun j t h => by omega⟩
      case round =>
        obtain ⟨i, hi, rfl, hE, hgood⟩ := hrel
        have HE := Lib.hid hE
        have HG := Lib.hid hgood
        have hB := HBa.out.ext hE
        obtain ⟨b0, b1, b2⟩ := hB.c3
        have hlt := hB.lt
        clear hE hgood hB
        by_cases hlti : (i : Int) < T.kids.length
        · have hi' : i < T.kids.length := by omega
          obtain ⟨ka, kb, kd, e0, e1, e2, hkid⟩ := H8.out i _ (List.getElem?_eq_getElem hi')
          have hkt : T.kids[i]? = some T.kids[i] := List.getElem?_eq_getElem hi'
          generalize T.kids[i] = kt at hkid hkt
          obtain ⟨b, o, hA, hb, hbR, hcell⟩ := H7.out (by rintro rfl; simp at e0)
          subst hA
          have hx := HEa.out.trans HE.out
          have j0 : wr.cell? ⟨b, o + i * 3, none⟩ = some ka := hx.cellS (hcell _ _ e0)
          have j1 : wr.cell? ⟨b, o + i * 3 + 1, none⟩ = some kb := hx.cellS (by rw [Nat.add_assoc]; exact hcell _ _ e1)
          have j2 : wr.cell? ⟨b, o + i * 3 + 2, none⟩ = some kd := hx.cellS (by rw [Nat.add_assoc]; exact hcell _ _ e2)
          obtain ⟨xA, xc, yA, yc, rfl, rfl, rfl⟩ := hkid.form3
          have hcall := IH.out (by omega) m _ kt (wr.alloc (.cells #[.int .i64 kt.kind, .slice xA kt.kids.length xc, .slice yA kt.names.length yc] 35)) (TyAt.onx (Onx.of_ext (hx.alloc _) _) _ _ _ hkid)
          have Hcall := Lib.hid hcall
          have Hkt := Lib.hid hkt
          clear hkid hcall hkt e0 e1 e2 hcell hx
          go_wp2_with fail
          refine Hcall.out.mono ?_
          rintro e w2 ⟨b, rfl, hg, he2⟩
          have Hg := Lib.hid hg
          have He2 := Lib.hid he2
          clear hg he2
          cases b
          · go_wp2_with fail
            go_ret
            exact AnsB.mk (by simp) ((HEa.out.trans HE.out).trans (((Ext.refl _).alloc _).trans He2.out))
          · go_wp2_with fail
            go_roundw
            case rel =>
              refine ⟨i + 1, by omega, rfl, HE.out.trans (((Ext.refl _).alloc _).trans He2.out), fun j t hj ht => ?_⟩
              by_cases hji : j = i
              · subst hji
                have e := ht.symm.trans Hkt.out
                injection e with e
                subst e
                exact Hg.out (by simp)
              · exact HG.out j t (by omega) ht
            case measure => simp [intOf]; omega
        · obtain rfl : i = T.kids.length := by omega
          have hall : ∀ k ∈ T.kids, Good d k := fun k hk => by
            obtain ⟨j, hj, e⟩ := List.mem_iff_getElem.1 hk
            exact HG.out j k hj (by rw [List.getElem?_eq_getElem hj, e])
          have Hall := Lib.hid hall
          have hEx : Ext w wr := HEa.out.trans HE.out
          have HEx := Lib.hid hEx
          clear hall hEx HG
          have fin : ∀ (Q : Bool) (w' : World), w' = wr → (Q = true → Shape T) → AnsB (fun b => b = true → Good (d + 1) T) w (.returned (.bool Q)) w' := fun Q w' e hQ => by
            subst e
            exact AnsB.mk (fun h => ⟨Hall.out, hQ h⟩) HEx.out
          have Fin := Lib.hid fin
          clear fin
          by_cases k32 : T.kind = 32
          · have K32 := Lib.hid k32
            have t32 : (T.kind == 32) = true := beq_tt k32
            clear k32
            by_cases e0 : T.kids.length = 1
            · have E0 := Lib.hid e0
              have u0 : ((T.kids.length : Int) == 1) = true := beq_tt (by omega)
              clear e0
              by_cases e1 : T.names.length = 0
              · have E1 := Lib.hid e1
                have u1 : ((T.names.length : Int) == 0) = true := beq_tt (by omega)
                clear e1
                go_wp2_with fail
                go_ret
                exact Fin.out _ _ rfl (fun _ => .inl ⟨.inl K32.out, E0.out, List.length_eq_zero_iff.1 E1.out⟩)
              · have u1 : ((T.names.length : Int) == 0) = false := beq_ff (by omega)
                clear e1
                go_wp2_with fail
                go_ret
                exact Fin.out _ _ rfl (by simp)
            · have u0 : ((T.kids.length : Int) == 1) = false := beq_ff (by omega)
              clear e0
              go_wp2_with fail
              go_ret
              exact Fin.out _ _ rfl (by simp)
          have t32 : (T.kind == 32) = false := beq_ff k32
          have K32 := Lib.hid k32
          clear k32
          by_cases k34 : T.kind = 34
          · have K34 := Lib.hid k34
            have t34 : (T.kind == 34) = true := beq_tt k34
            clear k34
            by_cases e0 : T.kids.length = 1
            · have E0 := Lib.hid e0
              have u0 : ((T.kids.length : Int) == 1) = true := beq_tt (by omega)
              clear e0
              by_cases e1 : T.names.length = 0
              · have E1 := Lib.hid e1
                have u1 : ((T.names.length : Int) == 0) = true := beq_tt (by omega)
                clear e1
                go_wp2_with fail
                go_ret
                exact Fin.out _ _ rfl (fun _ => .inl ⟨.inr K34.out, E0.out, List.length_eq_zero_iff.1 E1.out⟩)
              · have u1 : ((T.names.length : Int) == 0) = false := beq_ff (by omega)
                clear e1
                go_wp2_with fail
                go_ret
                exact Fin.out _ _ rfl (by simp)
            · have u0 : ((T.kids.length : Int) == 1) = false := beq_ff (by omega)
              clear e0
              go_wp2_with fail
              go_ret
              exact Fin.out _ _ rfl (by simp)
          have t34 : (T.kind == 34) = false := beq_ff k34
          have K34 := Lib.hid k34
          clear k34
          by_cases k33 : T.kind = 33
          · have K33 := Lib.hid k33
            have t33 : (T.kind == 33) = true := beq_tt k33
            clear k33
            by_cases e0 : T.kids.length = 2
            · have E0 := Lib.hid e0
              have u0 : ((T.kids.length : Int) == 2) = true := beq_tt (by omega)
              clear e0
              by_cases e1 : T.names.length = 0
              · have E1 := Lib.hid e1
                have u1 : ((T.names.length : Int) == 0) = true := beq_tt (by omega)
                clear e1
                go_wp2_with fail
                go_ret
                exact Fin.out _ _ rfl (fun _ => .inr (.inl ⟨K33.out, E0.out, List.length_eq_zero_iff.1 E1.out⟩))
              · have u1 : ((T.names.length : Int) == 0) = false := beq_ff (by omega)
                clear e1
                go_wp2_with fail
                go_ret
                exact Fin.out _ _ rfl (by simp)
            · have u0 : ((T.kids.length : Int) == 2) = false := beq_ff (by omega)
              clear e0
              go_wp2_with fail
              go_ret
              exact Fin.out _ _ rfl (by simp)
          have t33 : (T.kind == 33) = false := beq_ff k33
          have K33 := Lib.hid k33
          clear k33
          by_cases k49 : T.kind = 49
          · have K49 := Lib.hid k49
            have t49 : (T.kind == 49) = true := beq_tt k49
            clear k49
            by_cases g0 : (1 : Int) ≤ T.kids.length
            · by_cases g1 : (T.kids.length : Int) ≤ 10
              · skip
                by_cases e0 : T.names.length = 0
                · have E0 := Lib.hid e0
                  have u0 : ((T.names.length : Int) == 0) = true := beq_tt (by omega)
                  clear e0
                  go_wp2_with fail
                  go_ret
                  exact Fin.out _ _ rfl (fun _ => .inr (.inr (.inl ⟨K49.out, by omega, by omega, List.length_eq_zero_iff.1 E0.out⟩)))
                · have u0 : ((T.names.length : Int) == 0) = false := beq_ff (by omega)
                  clear e0
                  go_wp2_with fail
                  go_ret
                  exact Fin.out _ _ rfl (by simp)
              · go_wp2_with fail
                go_ret
                exact Fin.out _ _ rfl (by simp)
            · go_wp2_with fail
              go_ret
              exact Fin.out _ _ rfl (by simp)
          have t49 : (T.kind == 49) = false := beq_ff k49
          have K49 := Lib.hid k49
          clear k49
          by_cases k48 : T.kind = 48
          · have K48 := Lib.hid k48
            have t48 : (T.kind == 48) = true := beq_tt k48
            clear k48
            go_wp2_with fail
            go_loop [76] (fun v => ∃ i : Nat, i ≤ T.names.length ∧ v = .int .i64 i ∧ Hid ((T.names.take i).Nodup)) (fun v => T.names.length - (intOf v).toNat)
            case atStart => exact ⟨0, Nat.zero_le _, rfl, Lib.hid (by simp)⟩
            case round =>
              obtain ⟨i, hi, rfl, Hnd⟩ := hrel
              by_cases hin : (i : Int) < T.names.length
              · have hin' : i < T.names.length := by omega
                obtain ⟨b, o, hA, hb, hbR, hcell⟩ := H5.out (by intro e; simp at e; rw [e] at hin'; simp at hin')
                subst hA
                have hmem : T.names[i] ∈ T.names := List.getElem_mem hin'
                have hbd := Hnb.out _ hmem
                have hsi : T.names[i]? = some T.names[i] := List.getElem?_eq_getElem hin'
                have j0 : wr.cell? ⟨b, o + i, none⟩ = some (.string T.names[i]) := HEx.out.cellS (hcell i _ (by simp [hsi]))
                generalize T.names[i] = s at hbd hsi j0
                have Hsi := Lib.hid hsi
                have Hbd := Lib.hid hbd
                have Hc := Lib.hid hcell
                clear hsi hbd hcell hmem
                have hic : (i : Int) ≤ c' := by omega
                have hi0 : (0 : Int) ≤ i := by omega
                go_wp2_with fail
                go_loop [10, 86] (fun _ v => ∃ j : Nat, j ≤ i ∧ v = .int .i64 j ∧ Hid (∀ a x, a < j → T.names[a]? = some x → ¬ x.toList = s.toList)) (fun _ v => i - (intOf v).toNat)
                case atStart => exact ⟨0, Nat.zero_le _, rfl, Lib.hid (fun a x h => by omega)⟩
                case round =>
                  obtain ⟨j, hj, rfl, Hne⟩ := hrel
                  by_cases hji : (j : Int) < i
                  · have hjn : j < T.names.length := by omega
                    have hsj : T.names[j]? = some T.names[j] := List.getElem?_eq_getElem hjn
                    have q0 : wr.cell? ⟨b, o + j, none⟩ = some (.string T.names[j]) := HEx.out.cellS (Hc.out j _ (by simp [hsj]))
                    generalize T.names[j] = u at hsj q0
                    have Hsj := Lib.hid hsj
                    clear hsj
                    by_cases hus : u.toList = s.toList
                    · have hu : (u.toList == s.toList) = true := by simp [hus]
                      clear hus
                      go_wp2_with fail
                      go_ret
                      exact Fin.out _ _ rfl (by simp)
                    · have hu : (u.toList == s.toList) = false := by simp [hus]
                      have Hus := Lib.hid hus
                      clear hus
                      go_wp2_with fail
                      go_round
                      case rel =>
                        refine ⟨j + 1, by omega, by go_num, Lib.hid (fun a x ha hx => ?_)⟩
                        by_cases haj : a = j
                        · subst haj
                          have e := Hsj.out.symm.trans hx
                          injection e with e
                          subst e
                          exact Hus.out
                        · exact Hne.out a x (by omega) hx
                      case measure => simp [intOf]; omega
                  · have hnodup : (T.names.take (i + 1)).Nodup := by
                      obtain rfl : j = i := by omega
                      rw [List.take_add_one, Hsi.out]
                      simp only [Option.toList_some]
                      rw [List.nodup_append]
                      refine ⟨Hnd.out, by simp, fun x hx y hy => ?_⟩
                      simp only [List.mem_singleton] at hy
                      subst hy
                      rintro rfl
                      obtain ⟨k, hk, e⟩ := List.mem_iff_getElem.1 hx
                      rw [List.length_take] at hk
                      rw [List.getElem_take] at e
                      have hkn : k < T.names.length := by omega
                      exact Hne.out k x (by omega) (by rw [List.getElem?_eq_getElem hkn, e]) rfl
                    have Hnodup := Lib.hid hnodup
                    clear hnodup
                    by_cases hse : s.toList = []
                    · go_wp2_with fail
                      go_ret
                      exact Fin.out _ _ rfl (by simp)
                    · have hu : s.toList.isEmpty = false := by simp [hse]
                      have Has := Lib.hid (ascii_any s Hbd.out wr)
                      go_wp2_with fail
                      refine Has.out.mono ?_
                      rintro e w' ⟨bb, rfl, _, rfl⟩
                      cases bb
                      · go_wp2_with fail
                        go_ret
                        exact Fin.out _ _ rfl (by simp)
                      · go_wp2_with fail
                        go_round
                        case rel => exact ⟨i + 1, by omega, by go_num, Hnodup⟩
                        case measure => simp [intOf]; omega
              · have hnd : T.names.Nodup := by
                  have := Hnd.out
                  rwa [List.take_of_length_le (by omega)] at this
                have HN := Lib.hid hnd
                clear hnd Hnd
                by_cases g0 : (1 : Int) ≤ T.kids.length
                · by_cases g1 : (T.kids.length : Int) ≤ 10
                  · by_cases e0 : T.names.length = T.kids.length
                    · have E0 := Lib.hid e0
                      have u0 : ((T.names.length : Int) == (T.kids.length : Int)) = true := beq_tt (by omega)
                      clear e0
                      go_wp2_with fail
                      go_ret
                      exact Fin.out _ _ rfl (fun _ => .inr (.inr (.inr (.inl ⟨K48.out, by omega, by omega, E0.out, HN.out⟩))))
                    · have u0 : ((T.names.length : Int) == (T.kids.length : Int)) = false := beq_ff (by omega)
                      clear e0
                      go_wp2_with fail
                      go_ret
                      exact Fin.out _ _ rfl (by simp)
                  · go_wp2_with fail
                    go_ret
                    exact Fin.out _ _ rfl (by simp)
                · go_wp2_with fail
                  go_ret
                  exact Fin.out _ _ rfl (by simp)
          have t48 : (T.kind == 48) = false := beq_ff k48
          have K48 := Lib.hid k48
          clear k48
          by_cases k10 : T.kind = 10
          · have K10 := Lib.hid k10
            have t10 : (T.kind == 10) = true := beq_tt k10
            clear k10
            go_wp2_with fail
            go_ret
            exact Fin.out _ _ rfl (by simp)
          have t10 : (T.kind == 10) = false := beq_ff k10
          have K10 := Lib.hid k10
          clear k10
          by_cases k0 : T.kind = 0
          · have K0 := Lib.hid k0
            have t0 : (T.kind == 0) = true := beq_tt k0
            clear k0
            go_wp2_with fail
            go_ret
            exact Fin.out _ _ rfl (by simp)
          have t0 : (T.kind == 0) = false := beq_ff k0
          have K0 := Lib.hid k0
          clear k0
          by_cases g0 : (1 : Int) ≤ T.kind
          · by_cases g1 : T.kind ≤ 21
            · skip
              by_cases e0 : T.kids.length = 0
              · have E0 := Lib.hid e0
                have u0 : ((T.kids.length : Int) == 0) = true := beq_tt (by omega)
                clear e0
                by_cases e1 : T.names.length = 0
                · have E1 := Lib.hid e1
                  have u1 : ((T.names.length : Int) == 0) = true := beq_tt (by omega)
                  clear e1
                  go_wp2_with fail
                  go_ret
                  exact Fin.out _ _ rfl (fun _ => .inr (.inr (.inr (.inr ⟨g0, g1, K10.out, List.length_eq_zero_iff.1 E0.out, List.length_eq_zero_iff.1 E1.out⟩))))
                · have u1 : ((T.names.length : Int) == 0) = false := beq_ff (by omega)
                  clear e1
                  go_wp2_with fail
                  go_ret
                  exact Fin.out _ _ rfl (by simp)
              · have u0 : ((T.kids.length : Int) == 0) = false := beq_ff (by omega)
                clear e0
                go_wp2_with fail
                go_ret
                exact Fin.out _ _ rfl (by simp)
            · go_wp2_with fail
              go_ret
              exact Fin.out _ _ rfl (by simp)
          · go_wp2_with fail
            go_ret
            exact Fin.out _ _ rfl (by simp)
end Go.Proofs.YtammjbmfiakbnaaGreatDoor
