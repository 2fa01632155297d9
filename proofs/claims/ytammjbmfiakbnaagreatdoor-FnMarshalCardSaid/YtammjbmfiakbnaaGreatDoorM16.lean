/- A part of the proof that the card of laws.FnMarshal holds. No conditions. -/
import Derived.Test.YtammjbmfiakbnaaGreatDoorM15
set_option linter.unusedSimpArgs false
set_option linter.unusedVariables false
namespace Go.Proofs.YtammjbmfiakbnaaGreatDoor
open Go.RowKit
/-- A part of a tuple. -/
noncomputable def titm (n : Nat) (p : Ty × Vl) : List UInt8 := itemB p.2.sc.nul (enc n p.1 p.2)
theorem titm_len {n : Nat} (hn : n ≤ 5) {p : Ty × Vl} (ht : Good n p.1) (hk : p.2.sc.nul = true ∨ GoodV n p.1 p.2) : (titm n p).length ≤ 4 + bnd 5 := by
 unfold titm itemB
 split
 ·rw [beN_len]; omega
 ·rename_i h
  have hk := hk.resolve_left h
  have := Nat.le_trans (enc_len n p.1 p.2 ht hk) (bnd_mono hn)
  rw [List.length_append, beN_len]
  omega
theorem titms_len {n : Nat} (hn : n ≤ 5) (l : List (Ty × Vl)) (hl : ∀ p ∈ l, Good n p.1 ∧ (p.2.sc.nul = true ∨ GoodV n p.1 p.2)) (h20 : l.length ≤ 20) : (l.flatMap (titm n)).length ≤ 20 * (4 + bnd 5) :=
 Nat.le_trans (flat_len (titm n) (4 + bnd 5) l (fun p hp => titm_len hn (hl p hp).1 (hl p hp).2)) (Nat.mul_le_mul_right _ h20)
theorem GivenAt.nil {X : Nat → Prop} {n : Nat} {w : World} {G : Value} {T : Ty} {V : Vl} (h : GivenAt X n w G T V) (hn : V.sc.nul = true) : G = .nilIface := by
 cases n with
 |zero => exact h.elim
 |succ n =>
  rcases h with ⟨_, h⟩ | ⟨h, _⟩
  ·exact h
  ·rw [hn] at h; cases h
set_option maxRecDepth 100000 in
set_option maxHeartbeats 4000000 in
theorem mar_tuple (n : Nat) (hn : n ≤ 4) (hM : MarP n) (kk : Int) (Ts : List Ty) (ks : List Vl) (hlen : ks.length = Ts.length) (h1 : 1 ≤ ks.length) (h20 : ks.length ≤ 20) (A' : Option Addr) (c' : Nat) (is : List Value) (A : Addr) (c : Nat) (gs : List Value) (w : World) (X : Nat → Prop) (hX : ∀ b, X b → b < w.heap.size)
  (hc' : Ts.length ≤ c') (hil : is.length = Ts.length) (hsegI : SegR (fun _ => False) w A' is) (hI : ∀ (i : Nat) (t : Ty), Ts[i]? = some t → ∃ te ve, is[i]? = some (.iface te ve) ∧ InfoAt (fun _ => False) n w (.iface te ve) t)
  (hc : ks.length ≤ c) (hcm : c ≤ maxLen) (hgl : gs.length = ks.length) (hseg : SegR X w (some A) gs) (hkids : ∀ (i : Nat) (t : Ty) (k : Vl), Ts[i]? = some t → ks[i]? = some k → ∃ g, gs[i]? = some g ∧ GivenAt X n w g t k)
  (hgT : ∀ t ∈ Ts, Good n t) (hgV : ∀ (i : Nat) (t : Ty) (k : Vl), Ts[i]? = some t → ks[i]? = some k → k.sc.nul = true ∨ GoodV n t k) (hok : ∀ k ∈ ks, OkV n k) :
  Calls Tryz.prog 68 #[.iface 100 (.agg #[.int .u8 4, .int .i64 kk, .string ⟨#[]⟩, .slice A' Ts.length c']), .iface 151 (.slice (some A) ks.length c)] w (MarQ X ((Ts.zip ks).flatMap (titm n)) w) := by
 obtain ⟨a0, o0, hA', ha0, -, hcellI⟩ := hsegI (by intro e; rw [e] at hil; simp at hil; omega)
 subst hA'
 obtain ⟨b, o, hA, hb, hXb, hcell⟩ := hseg (by intro e; rw [e] at hgl; simp at hgl; omega)
 injection hA with hA
 subst hA
 have HXX := Lib.hid hX
 have HI := Lib.hid hI
 have HCI := Lib.hid hcellI
 have HC := Lib.hid hcell
 have HK := Lib.hid hkids
 have HG := Lib.hid hgT
 have HV := Lib.hid hgV
 have HOK := Lib.hid hok
 have HM := Lib.hid hM
 have Hlen := Lib.hid hlen
 rw [← hlen] at hc' ⊢
 have hlI : ((ks.length : Int) != ks.length) = false := by simp
 clear hX hI hsegI hseg hkids hgT hgV hM hgl hil hlen hcell hcellI hok
 unfold maxLen at hcm
 go_enter Tryz.func68, Tryz.ntmps68
 go_wp2_with fail
 generalize hW : World.alloc w _ = W1
 have h0 : Blk W1 w.heap.size 100 #[.int .u8 4, .int .i64 kk, .string ⟨#[]⟩, .slice (some ⟨a0, o0, none⟩) ks.length c'] ∧ Ext w W1 := by
  rw [← hW]
  exact ⟨Blk.new w 100 _, (Ext.refl w).alloc _⟩
 clear hW
 obtain ⟨hQ, hE1⟩ := h0
 obtain ⟨Y, hYd⟩ : ∃ Y : Nat → Prop, Y = fun k => W1.heap.size ≤ k := ⟨_, rfl⟩
 have hYu : ∀ k, W1.heap.size ≤ k → Y k := fun k hk => by rw [hYd]; exact hk
 have hYl : ∀ k, Y k → W1.heap.size ≤ k := fun k hk => by rw [hYd] at hk; exact hk
 have HQ := Lib.hid hQ
 have HE1 := Lib.hid hE1
 have HYu := Lib.hid hYu
 have HYl := Lib.hid hYl
 clear hQ hE1 hYd hYu hYl
 go_loopw [9, 36] (fun bv v wr => ∃ i : Nat, i ≤ ks.length ∧ v = .int .i64 i ∧ RowY Y wr bv (((Ts.zip ks).take i).flatMap (titm n)) ∧ KeepY Y W1 wr) (fun _ v _ => ks.length - (intOf v).toNat)
 case atStart => exact ⟨0, Nat.zero_le _, rfl, RowY.nil _ _, KeepY.refl _ _⟩
 case round =>
  obtain ⟨i, hi, rfl, hR, hKp⟩ := hrel
  obtain ⟨vA, vc, rfl, -⟩ := ownB_slice hR.2
  generalize hLn : List.length (List.flatMap (titm n) (List.take i (Ts.zip ks))) = ln at *
  have HLn := Lib.hid hLn
  have HR := Lib.hid hR
  have HKp := Lib.hid hKp
  have hEr := Lib.hid (hKp.ext (Ext.refl W1) HYl.out)
  clear hR hKp hLn
  by_cases hlt : (i : Int) < ks.length
  ·have hi' : i < ks.length := by omega
   obtain ⟨k, hk⟩ : ∃ k, ks[i]? = some k := ⟨_, List.getElem?_eq_getElem hi'⟩
   obtain ⟨t, ht⟩ : ∃ t, Ts[i]? = some t := ⟨_, List.getElem?_eq_getElem (by have := Hlen.out; omega)⟩
   have hz : (Ts.zip ks)[i]? = some (t, k) := by rw [List.getElem?_zip_eq_some]; exact ⟨ht, hk⟩
   obtain ⟨g, hg, hG⟩ := HK.out i t k ht hk
   have gv := HV.out i t k ht hk
   have hgt := HG.out t (List.mem_of_getElem? ht)
   have hc0 := (HE1.out.trans hEr.out).cellS (HC.out i g hg)
   have hbl := titms_len (n := n) (by omega) ((Ts.zip ks).take i) (fun p hp => by
    obtain ⟨j, hj⟩ := List.mem_iff_getElem?.1 (List.mem_of_mem_take hp)
    rw [List.getElem?_zip_eq_some] at hj
    exact ⟨HG.out _ (List.mem_of_getElem? hj.1), HV.out j _ _ hj.1 hj.2⟩) (by rw [List.length_take]; omega)
   have hb5 := bnd5
   have Hz := Lib.hid hz
   have Hbl := Lib.hid hbl
   have Hb5 := Lib.hid hb5
   have hszr := HKp.out.size
   cases hn0 : k.sc.nul with
   |true =>
    have hgn := hG.nil hn0
    subst hgn
    have Hn := Lib.hid hn0
    have Hc := Lib.hid (appendInt_any (-1) Y _ _ (by omega) wr HR.out (fun k hk => HYu.out k (by omega)))
    clear hk ht hg hG gv hgt hbl hb5 hn0 hz
    go_wp2_with fail
    refine Hc.out.mono ?_
    rintro e w5 ⟨v5, rfl, hR5, hk5⟩
    have HR5 : Hid (RowY Y w5 v5 (((Ts.zip ks).take (i + 1)).flatMap (titm n))) := Lib.hid (by
     rw [take_snoc Hz.out, List.flatMap_append]
     simpa [titm, itemB, Hn.out] using hR5)
    have HK5 := Lib.hid (HKp.out.trans hk5)
    clear hR5 hk5
    go_wp2_with fail
    go_roundw
    case rel => exact ⟨i + 1, by omega, by go_num, HR5.out, HK5.out⟩
    case measure => simp [intOf]; omega
   |false =>
    have gv := gv.resolve_left (by rw [hn0]; exact Bool.false_ne_true)
    obtain ⟨tg, vg, rfl⟩ := hG.iface hn0
    obtain ⟨te, ve, hie, hIi⟩ := HI.out i t ht
    have hc1 := (HE1.out.trans hEr.out).cellS (HCI.out i _ hie)
    have hQr := (HQ.out.ext hEr.out).cell 3
    have hlen5 := Nat.lt_of_le_of_lt (Nat.le_trans (enc_len n t k hgt gv) (bnd_mono (show n ≤ 5 by omega))) bnd5
    have hmar := HM.out wr (.iface te ve) (.iface tg vg) t k (fun b => Y b ∧ b < wr.heap.size) (fun b hb => hb.2) (InfoAt.onx (Onx.of_ext (HE1.out.trans hEr.out) _) _ _ _ hIi)
     (GivenAt.trans (Trans.weak (fun b hb => .inl hb.1)) _ _ _ _ (GivenAt.trans (Trans.onx HKp.out.onx) _ _ _ _ (GivenAt.trans (Trans.weak (fun b hb => .inr (HYl.out b hb))) _ _ _ _ (GivenAt.trans (Trans.onx (Onx.of_ext HE1.out X)) _ _ _ _ hG)))) hgt gv (HOK.out k (List.mem_of_getElem? hk))
    obtain ⟨L, hL⟩ : ∃ L, L = enc n t k := ⟨_, rfl⟩
    rw [← hL] at hmar hlen5
    have HL := Lib.hid hL
    have Hmar := Lib.hid hmar
    have Hn := Lib.hid hn0
    clear hk ht hg hG gv hgt hbl hb5 hn0 hz hie hIi hmar hL
    go_wp2_with fail
    refine Hmar.out.mono ?_
    rintro e w5 ⟨r, rfl, ⟨hO, hF⟩, hx⟩
    obtain ⟨rb, ro, rc, rfl, hrc, hrb, hrcell⟩ := hO.form
    obtain ⟨Z, hZ⟩ : ∃ Z : Nat → Prop, Z = fun k => (Y k ∧ k < wr.heap.size) ∨ w5.heap.size ≤ k := ⟨_, rfl⟩
    have hs5 := hx.size
    have hZu : ∀ k, w5.heap.size ≤ k → Z k := fun k hk => by rw [hZ]; exact .inr hk
    have hZY : ∀ k, Z k → Y k := fun k hk => by
     rw [hZ] at hk
     rcases hk with hk | hk
     ·exact hk.1
     ·exact HYu.out k (by omega)
    have hR5 : RowY Z w5 _ _ := (HR.out.weak (Y' := Z) (fun k hk hy => by rw [hZ]; exact .inl ⟨hy, hk⟩)).ext hx
    have hOk : ∀ W, KeepY Z w5 W → Out L (.slice (some ⟨rb, ro, none⟩) L.length rc) W := fun W hW => hO.keepY hW (fun b' o' n' c' e hlt => by
     rw [hZ]
     rintro (h | h)
     ·exact hF b' o' n' c' e h
     ·omega)
    have hw32 := wrap32_len L.length (Nat.le_of_lt_succ hlen5)
    have Hlen5 := Lib.hid hlen5
    have H20 := Lib.hid h20
    have Hc := Lib.hid (appendInt_any (L.length : Int) Z _ _ (by have := Hbl.out; have := Hb5.out; omega) w5 hR5 hZu)
    have HZu := Lib.hid hZu
    have HZY := Lib.hid hZY
    have HOk := Lib.hid hOk
    have HX5 := Lib.hid hx
    clear hO hF hx hrcell hZ hZu hZY hR5 hOk hlen5 h20 hc' hcm hc h1
    go_wp2_with fail
    refine Hc.out.mono ?_
    rintro e w6 ⟨v6, rfl, hR6, hk6⟩
    have hs6 := hk6.size
    obtain ⟨v7, w7, hrun, hR7, hk7, g7, n7, c7, rfl⟩ := row_append hR6 (by rw [List.length_append, beN_len]; omega) (fun k hk => HZu.out k (by omega)) (HOk.out w6 hk6).bytes (by rw [List.length_append, beN_len]; have := Hbl.out; have := Hb5.out; omega) (Nat.le_trans (Nat.le_of_lt Hlen5.out) (by decide))
    have HR7 : Hid (RowY Y w7 (.slice (some ⟨g7, 0, none⟩) n7 c7) (((Ts.zip ks).take (i + 1)).flatMap (titm n))) := Lib.hid (by
     rw [take_snoc Hz.out, List.flatMap_append]
     have h7 := hR7.weak (Y' := Y) (fun k _ h => HZY.out k h)
     simpa [titm, itemB, Hn.out, ← HL.out] using h7)
    have HK7 := Lib.hid (HKp.out.trans ((KeepY.of_ext HX5.out).trans ((hk6.trans hk7).weak (Y' := Y) (fun k _ h => HZY.out k h))))
    clear hR6 hk6 hR7 hk7 hw32
    have h20 := H20.out
    go_wp2_with (first | (at_builtin; refine wpList_append_eq rfl _ _ 27 27 rfl _ _ rfl rfl (fun ty => hrun ty) ?_))
    go_roundw
    case rel => exact ⟨i + 1, by omega, by go_num, HR7.out, HK7.out⟩
    case measure => simp [intOf]; omega
  ·obtain rfl : i = ks.length := by omega
   have hzl : (Ts.zip ks).take ks.length = Ts.zip ks := List.take_of_length_le (by rw [List.length_zip]; exact Nat.min_le_right _ _)
   rw [hzl] at HR HLn
   have hpos : 0 < ln := by
    rw [← HLn.out]
    obtain ⟨k, hk⟩ : ∃ k, ks[0]? = some k := ⟨_, List.getElem?_eq_getElem (by omega)⟩
    obtain ⟨t, ht⟩ : ∃ t, Ts[0]? = some t := ⟨_, List.getElem?_eq_getElem (by have := Hlen.out; omega)⟩
    have hm : (t, k) ∈ Ts.zip ks := List.mem_of_getElem? (i := 0) (by rw [List.getElem?_zip_eq_some]; exact ⟨ht, hk⟩)
    obtain ⟨l1, l2, e⟩ := List.append_of_mem hm
    rw [e]
    simp only [List.flatMap_append, List.flatMap_cons, List.length_append, titm, itemB]
    split <;> simp only [List.length_append, beN_len] <;> omega
   rw [← HLn.out] at hpos
   have hO := HR.out.out hpos
   have HO := Lib.hid hO
   have HF := Lib.hid hEr.out
   clear hEr hzl hO hpos
   go_wp2_with fail
   go_ret2
   exact ⟨_, rfl, ⟨HO.out.1, fun b o n c e hx => by have h1 := HO.out.2 b o n c e; have h2 := HYl.out b h1; have h3 := HXX.out b hx; have := HE1.out.size; omega⟩, HE1.out.trans HF.out⟩
end Go.Proofs.YtammjbmfiakbnaaGreatDoor
namespace Go.Proofs.YtammjbmfiakbnaaGreatDoor
open Go.RowKit
set_option maxRecDepth 100000 in
set_option maxHeartbeats 4000000 in
theorem mar_udt (n : Nat) (hn : n ≤ 4) (hM : MarP n) (kk : Int) (Ts : List Ty) (ns : List ByteArray) (ks : List Vl) (hlen : ks.length = Ts.length) (h1 : 1 ≤ ks.length) (h20 : ks.length ≤ 20) (A' : Option Addr) (c' : Nat) (is : List Value) (mb : Nat) (gs : List Value) (w : World) (X : Nat → Prop) (hX : ∀ b, X b → b < w.heap.size)
  (hc' : Ts.length ≤ c') (hil : is.length = Ts.length * 2) (hsegI : SegR (fun _ => False) w A' is) (hI : ∀ (i : Nat) (t : Ty), Ts[i]? = some t → ∃ s te ve, ns[i]? = some s ∧ is[i * 2]? = some (.string s) ∧ is[i * 2 + 1]? = some (.iface te ve) ∧ InfoAt (fun _ => False) n w (.iface te ve) t)
  (hmap : MapR X w mb ns gs) (hkids : ∀ (i : Nat) (t : Ty) (k : Vl), Ts[i]? = some t → ks[i]? = some k → ∃ g, gs[i]? = some g ∧ GivenAt X n w g t k)
  (hgT : ∀ t ∈ Ts, Good n t) (hgV : ∀ (i : Nat) (t : Ty) (k : Vl), Ts[i]? = some t → ks[i]? = some k → GoodV n t k) (hok : ∀ k ∈ ks, OkV n k) :
  Calls Tryz.prog 69 #[.iface 103 (.agg #[.int .u8 4, .int .i64 kk, .string ⟨#[]⟩, .string ⟨#[]⟩, .string ⟨#[]⟩, .slice A' Ts.length c']), .iface 152 (.map (some mb))] w (MarQ X ((Ts.zip ks).flatMap (titm n)) w) := by
 obtain ⟨a0, o0, hA', ha0, -, hcellI⟩ := hsegI (by intro e; rw [e] at hil; simp at hil; omega)
 subst hA'
 obtain ⟨hXm, hmb, hlk⟩ := hmap
 have HXX := Lib.hid hX
 have HI := Lib.hid hI
 have HCI := Lib.hid hcellI
 have HLK := Lib.hid hlk
 have HK := Lib.hid hkids
 have HG := Lib.hid hgT
 have HV := Lib.hid hgV
 have HOK := Lib.hid hok
 have HM := Lib.hid hM
 have Hlen := Lib.hid hlen
 rw [← hlen] at hc' ⊢
 clear hX hI hsegI hlk hkids hgT hgV hM hil hlen hcellI hok
 go_enter Tryz.func69, Tryz.ntmps69
 go_wp2_with fail
 generalize hW : World.alloc w _ = W1
 have h0 : Blk W1 w.heap.size 103 #[.int .u8 4, .int .i64 kk, .string ⟨#[]⟩, .string ⟨#[]⟩, .string ⟨#[]⟩, .slice (some ⟨a0, o0, none⟩) ks.length c'] ∧ Ext w W1 := by
  rw [← hW]
  exact ⟨Blk.new w 103 _, (Ext.refl w).alloc _⟩
 clear hW
 obtain ⟨hQ, hE1⟩ := h0
 obtain ⟨Y, hYd⟩ : ∃ Y : Nat → Prop, Y = fun k => W1.heap.size ≤ k := ⟨_, rfl⟩
 have hYu : ∀ k, W1.heap.size ≤ k → Y k := fun k hk => by rw [hYd]; exact hk
 have hYl : ∀ k, Y k → W1.heap.size ≤ k := fun k hk => by rw [hYd] at hk; exact hk
 have HQ := Lib.hid hQ
 have HE1 := Lib.hid hE1
 have HYu := Lib.hid hYu
 have HYl := Lib.hid hYl
 clear hQ hE1 hYd hYu hYl
 go_loopw [16, 72] (fun bv v wr => ∃ i : Nat, i ≤ ks.length ∧ v = .int .i64 i ∧ RowY Y wr bv (((Ts.zip ks).take i).flatMap (titm n)) ∧ KeepY Y W1 wr) (fun _ v _ => ks.length - (intOf v).toNat)
 case atStart => exact ⟨0, Nat.zero_le _, rfl, RowY.nil _ _, KeepY.refl _ _⟩
 case round =>
  obtain ⟨i, hi, rfl, hR, hKp⟩ := hrel
  obtain ⟨vA, vc, rfl, -⟩ := ownB_slice hR.2
  generalize hLn : List.length (List.flatMap (titm n) (List.take i (Ts.zip ks))) = ln at *
  have HLn := Lib.hid hLn
  have HR := Lib.hid hR
  have HKp := Lib.hid hKp
  have hEr := Lib.hid (hKp.ext (Ext.refl W1) HYl.out)
  clear hR hKp hLn
  by_cases hlt : (i : Int) < ks.length
  ·have hi' : i < ks.length := by omega
   obtain ⟨k, hk⟩ : ∃ k, ks[i]? = some k := ⟨_, List.getElem?_eq_getElem hi'⟩
   obtain ⟨t, ht⟩ : ∃ t, Ts[i]? = some t := ⟨_, List.getElem?_eq_getElem (by have := Hlen.out; omega)⟩
   have hz : (Ts.zip ks)[i]? = some (t, k) := by rw [List.getElem?_zip_eq_some]; exact ⟨ht, hk⟩
   obtain ⟨g, hg, hG⟩ := HK.out i t k ht hk
   have gv := HV.out i t k ht hk
   have hn0 := gv.nul
   have hgt := HG.out t (List.mem_of_getElem? ht)
   obtain ⟨tg, vg, rfl⟩ := hG.iface hn0
   obtain ⟨s, te, ve, hs, his, hie, hIi⟩ := HI.out i t ht
   have hc0 := (HE1.out.trans hEr.out).cellS (HCI.out (i * 2) _ his)
   have hc1 := (HE1.out.trans hEr.out).cellS (HCI.out (i * 2 + 1) _ hie)
   rw [← Nat.add_assoc] at hc1
   have hbl := titms_len (n := n) (by omega) ((Ts.zip ks).take i) (fun p hp => by
    obtain ⟨j, hj⟩ := List.mem_iff_getElem?.1 (List.mem_of_mem_take hp)
    rw [List.getElem?_zip_eq_some] at hj
    exact ⟨HG.out _ (List.mem_of_getElem? hj.1), .inr (HV.out j _ _ hj.1 hj.2)⟩) (by rw [List.length_take]; omega)
   have hb5 := bnd5
   have Hz := Lib.hid hz
   have Hbl := Lib.hid hbl
   have Hb5 := Lib.hid hb5
   have hszr := HKp.out.size
   have hlen5 := Nat.lt_of_le_of_lt (Nat.le_trans (enc_len n t k hgt gv) (bnd_mono (show n ≤ 5 by omega))) bnd5
   have hmar := fun W (he : Ext wr W) => HM.out W (.iface te ve) (.iface tg vg) t k (fun b => Y b ∧ b < wr.heap.size) (fun b hb => Nat.lt_of_lt_of_le hb.2 he.size) (InfoAt.onx (Onx.of_ext ((HE1.out.trans hEr.out).trans he) _) _ _ _ hIi)
    (GivenAt.trans (Trans.onx (Onx.of_ext he _)) _ _ _ _ (GivenAt.trans (Trans.weak (fun b hb => .inl hb.1)) _ _ _ _ (GivenAt.trans (Trans.onx HKp.out.onx) _ _ _ _ (GivenAt.trans (Trans.weak (fun b hb => .inr (HYl.out b hb))) _ _ _ _ (GivenAt.trans (Trans.onx (Onx.of_ext HE1.out X)) _ _ _ _ hG))))) hgt gv (HOK.out k (List.mem_of_getElem? hk))
   obtain ⟨L, hL⟩ : ∃ L, L = enc n t k := ⟨_, rfl⟩
   rw [← hL] at hmar hlen5
   have HL := Lib.hid hL
   have Hmar := Lib.hid hmar
   have Hn := Lib.hid hn0
   have Hlk := Lib.hid (fun W (he : Ext wr W) => HLK.out i s _ hs hg W ((((HE1.out.trans hEr.out).trans he).block mb hmb)))
   clear hk ht hg hG gv hgt hbl hb5 hn0 hz hie hIi hmar hL hs his
   go_upto_region 27 with fail
   generalize hW : World.alloc wr _ = W5
   have h0 : Blk W5 wr.heap.size 105 #[.string s, .iface te ve] ∧ Ext wr W5 ∧ W5.heap.size = wr.heap.size + 1 := by
    rw [← hW]
    exact ⟨Blk.new wr 105 _, (Ext.refl wr).alloc _, by simp⟩
   clear hW hc0 hc1
   obtain ⟨hB5, hE5, hsz5⟩ := h0
   obtain ⟨r0, r1⟩ := hB5.c2
   have hlk5 := Hlk.out W5 hE5
   have HE5 := Lib.hid hE5
   have Hm5 := Lib.hid (Hmar.out W5 hE5)
   clear hB5 hE5
   go_wp2_with fail
   refine Hm5.out.mono ?_
   rintro e w6 ⟨r, rfl, ⟨hO, hF⟩, hx⟩
   obtain ⟨rb, ro, rc, rfl, hrc, hrb, hrcell⟩ := hO.form
   obtain ⟨Z, hZ⟩ : ∃ Z : Nat → Prop, Z = fun k => (Y k ∧ k < wr.heap.size) ∨ w6.heap.size ≤ k := ⟨_, rfl⟩
   have hs6 := hx.size
   have hZu : ∀ k, w6.heap.size ≤ k → Z k := fun k hk => by rw [hZ]; exact .inr hk
   have hZY : ∀ k, Z k → Y k := fun k hk => by
    rw [hZ] at hk
    rcases hk with hk | hk
    ·exact hk.1
    ·exact HYu.out k (by omega)
   have hR6 : RowY Z w6 _ _ := (HR.out.weak (Y' := Z) (fun k hk hy => by rw [hZ]; exact .inl ⟨hy, hk⟩)).ext (HE5.out.trans hx)
   have hOk : ∀ W, KeepY Z w6 W → Bytes W (.slice (some ⟨rb, ro, none⟩) L.length rc) L := fun W hW => (hO.keepY hW (fun b' o' n' c' e hlt => by
    rw [hZ]
    rintro (h | h)
    ·exact hF b' o' n' c' e h
    ·omega)).bytes
   have Hc := Lib.hid (appendBytes_any Z _ _ L (by have := Hbl.out; have := Hb5.out; omega) (Nat.le_of_lt_succ hlen5) rb ro rc w6 hR6 hZu hOk)
   have HZY := Lib.hid hZY
   have HX6 := Lib.hid (HE5.out.trans hx)
   clear hO hF hx hrcell hZ hZu hZY hR6 hOk hlen5 hlk5 r0 r1
   go_wp2_with fail
   refine Hc.out.mono ?_
   rintro e w7 ⟨v7, rfl, hR7, hk7⟩
   have HR7 : Hid (RowY Y w7 v7 (((Ts.zip ks).take (i + 1)).flatMap (titm n))) := Lib.hid (by
    rw [take_snoc Hz.out, List.flatMap_append]
    have h7 := hR7.weak (Y' := Y) (fun k _ h => HZY.out k h)
    simpa [titm, itemB, Hn.out, ← HL.out] using h7)
   have HK7 := Lib.hid (HKp.out.trans ((KeepY.of_ext HX6.out).trans (hk7.weak (Y' := Y) (fun k _ h => HZY.out k h))))
   clear hR7 hk7
   go_wp2_with fail
   go_roundw
   case rel => exact ⟨i + 1, by omega, by go_num, HR7.out, HK7.out⟩
   case measure => simp [intOf]; omega
  ·obtain rfl : i = ks.length := by omega
   have hzl : (Ts.zip ks).take ks.length = Ts.zip ks := List.take_of_length_le (by rw [List.length_zip]; exact Nat.min_le_right _ _)
   rw [hzl] at HR HLn
   have hpos : 0 < ln := by
    rw [← HLn.out]
    obtain ⟨k, hk⟩ : ∃ k, ks[0]? = some k := ⟨_, List.getElem?_eq_getElem (by omega)⟩
    obtain ⟨t, ht⟩ : ∃ t, Ts[0]? = some t := ⟨_, List.getElem?_eq_getElem (by have := Hlen.out; omega)⟩
    have hm : (t, k) ∈ Ts.zip ks := List.mem_of_getElem? (i := 0) (by rw [List.getElem?_zip_eq_some]; exact ⟨ht, hk⟩)
    obtain ⟨l1, l2, e⟩ := List.append_of_mem hm
    rw [e]
    simp only [List.flatMap_append, List.flatMap_cons, List.length_append, titm, itemB]
    split <;> simp only [List.length_append, beN_len] <;> omega
   rw [← HLn.out] at hpos
   have hO := HR.out.out hpos
   have HO := Lib.hid hO
   have HF := Lib.hid hEr.out
   clear hEr hzl hO hpos
   go_wp2_with fail
   go_ret2
   exact ⟨_, rfl, ⟨HO.out.1, fun b o n c e hx => by have h1 := HO.out.2 b o n c e; have h2 := HYl.out b h1; have h3 := HXX.out b hx; have := HE1.out.size; omega⟩, HE1.out.trans HF.out⟩
end Go.Proofs.YtammjbmfiakbnaaGreatDoor
namespace Go.Proofs.YtammjbmfiakbnaaGreatDoor
open Go.RowKit
theorem gives_of {F : FuncId} {info v : Value} {w : World} {X : Nat → Prop} {l : List UInt8} (hX : ∀ b, X b → b < w.heap.size) (h : ∀ W, Ext w W → (∀ b, X b → b < W.heap.size) → Calls Tryz.prog F #[info, v] W (MarQ X l W)) :
  Hid (Gives F info v w (fun r w' => Out l r w' ∧ Far X r)) := Lib.hid fun W he => (h W he (fun b hb => Nat.lt_of_lt_of_le (hX b hb) he.size)).mono fun _ _ h => h
theorem bigF {X : Nat → Prop} {w W : World} {n : Int} {g : Bool} {z : Value} (h : BigR X w n g z) (he : Ext w W) : BigR (fun _ => False) W n g z := BigR.trans (Trans.onx (Onx.of_ext he _)) (BigR.trans (Trans.weak (fun b hb => hb.elim)) h)
theorem datF {X : Nat → Prop} {b o n c : Nat} (h : ¬ X b) : Far X (.slice (some ⟨b, o, none⟩) n c) := fun b' o' n' c' e => by
 injection e with e
 injection e with e
 injection e with e
 subst e
 exact h
/-- Values without parts. -/
theorem marsh_leaf (k : Int) (s : Sc) (G : Value) (w : World) (X : Nat → Prop) (hX : ∀ b, X b → b < w.heap.size) (hG : GivS X w k s G) (hg : GoodS k s) (hok : ScOk s) :
  Calls Tryz.prog 27 #[.iface 94 (natT k), G] w (MarQ X (encS k s) w) := by
 obtain ⟨g1, g2, g3, g4, g5, g6, g7, g8, g9, g10, g11, g12, g13⟩ := hg
 rcases hG with ⟨hk, rfl⟩ | ⟨rfl, v, rfl, hd⟩ | ⟨rfl, v, rfl, hd⟩ | ⟨rfl, rfl⟩ | ⟨rfl, rfl⟩ | ⟨rfl, rfl⟩ | ⟨rfl, rfl⟩ | ⟨hk, rfl⟩ | ⟨rfl, rfl⟩ | ⟨rfl, rfl⟩ | ⟨rfl, rfl⟩ | ⟨rfl, g, z, rfl, hb⟩ | ⟨rfl, g, z, rfl, hb⟩ | ⟨hk, rfl⟩ | ⟨rfl, rfl⟩
 ·rcases hk with rfl | rfl
  ·rw [show encS 1 s = chs s.text by simp [encS]]
   exact disp_1 94 (natT 1) _ w (fun r w' => Out (chs s.text) r w' ∧ Far X r) (fun W => me_94_Version _ _ _ W) (fun W => me_94_Type _ _ _ W) (fun W => as_9_128 _ W) (gives_of hX fun W _ hW => mar_text s.text _ W X hW)
  ·rw [show encS 13 s = chs s.text by simp [encS]]
   exact disp_13 94 (natT 13) _ w (fun r w' => Out (chs s.text) r w' ∧ Far X r) (fun W => me_94_Version _ _ _ W) (fun W => me_94_Type _ _ _ W) (fun W => as_9_128 _ W) (gives_of hX fun W _ hW => mar_text s.text _ W X hW)
 ·obtain ⟨b, o, c, rfl, hc, hxb, hO⟩ := hd
  rw [show encS 3 s = s.data by simp [encS]]
  exact disp_3 94 (natT 3) _ w (fun r w' => Out s.data r w' ∧ Far X r) (fun W => me_94_Version _ _ _ W) (fun W => me_94_Type _ _ _ W) (fun W => as_27_128 _ W) (gives_of hX fun W he hW => mar_blob _ s.data _ W (hO.ext he) X hW (datF hxb))
 ·obtain ⟨b, o, c, rfl, hc, hxb, hO⟩ := hd
  rw [show encS 16 s = s.data by simp [encS]]
  exact disp_16 94 (natT 16) _ w (fun r w' => Out s.data r w' ∧ Far X r) (fun W => me_94_Version _ _ _ W) (fun W => me_94_Type _ _ _ W) (fun W => as_123_128 _ W) (gives_of hX fun W he hW => by
   have hO' := hO.ext he
   obtain ⟨b', o', c', e, hc', hb', hcell⟩ := hO'.form
   injection e with e1 e2 e3
   injection e1 with e1
   injection e1 with e1 e4
   subst e1; subst e3; subst e4
   exact mar_inet b o c s.data (g4 rfl) hc' hc _ W hcell hO' X hxb)
 ·rw [show encS 4 s = beN (if (s.n == 1) then 1 else 0) 1 by rcases g8 rfl with h | h <;> simp [encS, h]]
  exact disp_4 94 (natT 4) _ w (fun r w' => Out (beN (if (s.n == 1) then 1 else 0) 1) r w' ∧ Far X r) (fun W => me_94_Version _ _ _ W) (fun W => me_94_Type _ _ _ W) (fun W => as_4_128 _ W) (gives_of hX fun W _ hW => mar_bool (s.n == 1) _ W X hW)
 ·rw [show encS 20 s = beN s.n 1 by simp [encS]]
  exact disp_20 94 (natT 20) _ w (fun r w' => Out (beN s.n 1) r w' ∧ Far X r) (fun W => me_94_Version _ _ _ W) (fun W => me_94_Type _ _ _ W) (fun W => as_106_128 _ W) (gives_of hX fun W _ hW => mar_tiny s.n _ W X hW)
 ·rw [show encS 19 s = beN s.n 2 by simp [encS]]
  exact disp_19 94 (natT 19) _ w (fun r w' => Out (beN s.n 2) r w' ∧ Far X r) (fun W => me_94_Version _ _ _ W) (fun W => me_94_Type _ _ _ W) (fun W => as_107_128 _ W) (gives_of hX fun W _ hW => mar_small s.n _ W X hW)
 ·rw [show encS 9 s = beN s.n 4 by simp [encS]]
  exact disp_9 94 (natT 9) _ w (fun r w' => Out (beN s.n 4) r w' ∧ Far X r) (fun W => me_94_Version _ _ _ W) (fun W => me_94_Type _ _ _ W) (fun W => as_21_128 _ W) (gives_of hX fun W _ hW => mar_int s.n _ W X hW)
 ·rcases hk with rfl | rfl | rfl | rfl
  ·rw [show encS 2 s = beN s.n 8 by simp [encS]]
   exact disp_2 94 (natT 2) _ w (fun r w' => Out (beN s.n 8) r w' ∧ Far X r) (fun W => me_94_Version _ _ _ W) (fun W => me_94_Type _ _ _ W) (fun W => as_2_128 _ W) (gives_of hX fun W _ hW => mar_big s.n _ W X hW)
  ·rw [show encS 5 s = beN s.n 8 by simp [encS]]
   exact disp_5 94 (natT 5) _ w (fun r w' => Out (beN s.n 8) r w' ∧ Far X r) (fun W => me_94_Version _ _ _ W) (fun W => me_94_Type _ _ _ W) (fun W => as_2_128 _ W) (gives_of hX fun W _ hW => mar_big s.n _ W X hW)
  ·rw [show encS 11 s = beN s.n 8 by simp [encS]]
   exact disp_11 94 (natT 11) _ w (fun r w' => Out (beN s.n 8) r w' ∧ Far X r) (fun W => me_94_Version _ _ _ W) (fun W => me_94_Type _ _ _ W) (fun W => as_2_128 _ W) (gives_of hX fun W _ hW => mar_stamp s.n _ W X hW)
  ·rw [show encS 18 s = beN s.n 8 by simp [encS]]
   exact disp_18 94 (natT 18) _ w (fun r w' => Out (beN s.n 8) r w' ∧ Far X r) (fun W => me_94_Version _ _ _ W) (fun W => me_94_Type _ _ _ W) (fun W => as_2_128 _ W) (gives_of hX fun W _ hW => mar_time s.n _ W X hW)
 ·rw [show encS 17 s = beN (s.n + 2147483648) 4 by simp [encS]]
  exact disp_17 94 (natT 17) _ w (fun r w' => Out (beN (s.n + 2147483648) 4) r w' ∧ Far X r) (fun W => me_94_Version _ _ _ W) (fun W => me_94_Type _ _ _ W) (fun W => as_2_128 _ W) (gives_of hX fun W _ hW => mar_date s.n (g9 rfl).1 (g9 rfl).2 _ W X hW)
 ·rw [show encS 8 s = beN (f32v s.f : Int) 4 by simp [encS]]
  exact disp_8 94 (natT 8) _ w (fun r w' => Out (beN (f32v s.f : Int) 4) r w' ∧ Far X r) (fun W => me_94_Version _ _ _ W) (fun W => me_94_Type _ _ _ W) (fun W => as_77_128 _ W) (gives_of hX fun W _ hW => mar_float _ (f32v_spec (g10 (.inr rfl))).1 _ W X hW)
 ·rw [show encS 7 s = beN (s.f : Int) 8 by simp [encS]]
  exact disp_7 94 (natT 7) _ w (fun r w' => Out (beN (s.f : Int) 8) r w' ∧ Far X r) (fun W => me_94_Version _ _ _ W) (fun W => me_94_Type _ _ _ W) (fun W => as_26_128 _ W) (gives_of hX fun W _ hW => mar_double s.f hok.f _ W X hW)
 ·rw [show encS 14 s = tc (numOf (chs s.text)) by simp [encS]]
  exact disp_14 94 (natT 14) _ w (fun r w' => Out (tc (numOf (chs s.text))) r w' ∧ Far X r) (fun W => me_94_Version _ _ _ W) (fun W => me_94_Type _ _ _ W) (fun W => as_114_128 _ W) (gives_of hX fun W he hW => mar_varint g z _ (dig_lt (g11 (.inl rfl))) _ W (bigF hb he) X hW)
 ·rw [show encS 6 s = beN s.scale 4 ++ tc (numOf (chs s.text)) by simp [encS]]
  exact disp_6 94 (natT 6) _ w (fun r w' => Out (beN s.scale 4 ++ tc (numOf (chs s.text))) r w' ∧ Far X r) (fun W => me_94_Version _ _ _ W) (fun W => me_94_Type _ _ _ W) (fun W => as_116_128 _ W) (gives_of hX fun W he hW => mar_dec g z _ s.scale (dig_lt (g11 (.inr rfl))) _ W (bigF hb he) X hW)
 ·rcases hk with rfl | rfl
  ·rw [show encS 12 s = s.data by simp [encS]]
   exact disp_12 94 (natT 12) _ w (fun r w' => Out s.data r w' ∧ Far X r) (fun W => me_94_Version _ _ _ W) (fun W => me_94_Type _ _ _ W) (fun W => as_120_128 _ W) (gives_of hX fun W _ hW => mar_uuid s.data (g3 (.inl rfl)) _ W X hW)
  ·rw [show encS 15 s = s.data by simp [encS]]
   exact disp_15 94 (natT 15) _ w (fun r w' => Out s.data r w' ∧ Far X r) (fun W => me_94_Version _ _ _ W) (fun W => me_94_Type _ _ _ W) (fun W => as_120_128 _ W) (gives_of hX fun W _ hW => mar_uuid s.data (g3 (.inr rfl)) _ W X hW)
 ·obtain ⟨d1, d2, d3, d4⟩ := g13 rfl
  rw [show encS 21 s = vintB s.months ++ vintB s.days ++ vintB s.nanos by simp [encS]]
  exact disp_21 94 (natT 21) _ w (fun r w' => Out (vintB s.months ++ vintB s.days ++ vintB s.nanos) r w' ∧ Far X r) (fun W => me_94_Version _ _ _ W) (fun W => me_94_Type _ _ _ W) (fun W => as_125_128 _ W) (gives_of hX fun W _ hW => mar_dur s.months s.days s.nanos ⟨d1, d2⟩ ⟨d3, d4⟩ hok.nanos _ W X hW)
theorem flat_congr {α : Type} {f g : α → List UInt8} : ∀ {l : List α}, (∀ x ∈ l, f x = g x) → l.flatMap f = l.flatMap g
 |[], _ => rfl
 |a :: r, h => by
  rw [List.flatMap_cons, List.flatMap_cons, h a (by simp), flat_congr (fun x hx => h x (by simp [hx]))]
theorem infoF {n : Nat} {w W : World} {I : Value} {T : Ty} (h : InfoAt (fun _ => False) n w I T) (he : Ext w W) : InfoAt (fun _ => False) n W I T := InfoAt.onx (Onx.of_ext he _) _ _ _ h
theorem givF {X : Nat → Prop} {n : Nat} {w W : World} {G : Value} {T : Ty} {V : Vl} (h : GivenAt X n w G T V) (he : Ext w W) : GivenAt X n W G T V := GivenAt.trans (Trans.onx (Onx.of_ext he _)) _ _ _ _ h
/-- Marshal gives the reference's bytes. -/
theorem marsh_any : ∀ n, n ≤ 5 → MarP n
 |0, _ => fun _ _ _ _ _ _ _ _ _ h _ _ => h.elim
 |n + 1, hn => fun w I G T V X hX hI hG hgT hgV hok => by
  have ih := marsh_any n (by omega)
  obtain ⟨hgk, hsh⟩ := hgT
  obtain ⟨hnul, h20, hV⟩ := hgV
  obtain ⟨hs, hok1, hok2⟩ := hok
  rcases hG with ⟨h, _⟩ | ⟨_, hG⟩
  ·rw [hnul] at h; cases h
  rcases hG with ⟨hk, hS⟩ | ⟨hk, A, c, gs, rfl, hc, hcm, hgl, hseg, hkids⟩ | ⟨hk, A, c, gs, rfl, hc, hcm, hgl, hseg, hkids⟩ | ⟨hk, A, c, gs, rfl, hc, hcm, hgl, hseg, hkids⟩ | ⟨hk, mb, gs, rfl, hgl, hmap, hkids⟩
  ·have hI' : I = .iface 94 (natT T.kind) := by
    rcases hI with ⟨_, _, _, _, h⟩ | ⟨h, _⟩ | ⟨h, _⟩ | ⟨h, _⟩ | ⟨h, _⟩
    ·exact h
    all_goals omega
   subst hI'
   have hGS : GoodS T.kind V.sc := by
    rcases hV with ⟨_, _, _, h⟩ | ⟨h, _⟩ | ⟨h, _⟩ | ⟨h, _⟩
    ·exact h
    all_goals omega
   have e : enc (n + 1) T V = encS T.kind V.sc := by unfold enc; rw [if_pos hk]
   rw [e]
   exact marsh_leaf T.kind V.sc G w X hX hS hGS hs
  ·obtain ⟨t, te, ve, hkt, rfl, hIt⟩ : ∃ t te ve, T.kids = [t] ∧ I = .iface 98 (.agg #[.int .u8 4, .int .i64 T.kind, .string ⟨#[]⟩, .nilIface, .iface te ve]) ∧ InfoAt (fun _ => False) n w (.iface te ve) t := by
    rcases hI with ⟨_, h, _⟩ | ⟨_, h⟩ | ⟨h, _⟩ | ⟨h, _⟩ | ⟨h, _⟩
    ·omega
    ·exact h
    all_goals omega
   have hgt : Good n t := hgk t (by rw [hkt]; simp)
   have hgv : ∀ k ∈ V.kids, GoodV n t k := by
    rcases hV with ⟨h, _⟩ | ⟨_, _, t', ht', h⟩ | ⟨h, _⟩ | ⟨h, _⟩
    ·omega
    ·rw [hkt] at ht'
     injection ht' with ht'
     subst ht'
     exact h
    all_goals omega
   have hd : T.kids.getD 0 Ty.bad = t := by rw [hkt]; rfl
   have e : enc (n + 1) T V = beN (V.kids.length : Int) 4 ++ V.kids.flatMap (itm n t) := by
    unfold enc
    rw [if_neg (by omega), if_pos hk, hd]
    congr 1
    exact flat_congr fun k hk => by simp [itm, itemB, (hgv k hk).nul]
   rw [e]
   have hm := fun W (he : Ext w W) (hW : ∀ b, X b → b < W.heap.size) (kk : Int) => mar_list n (by omega) ih kk te ve t V.kids h20 A c gs W X hW (infoF hIt he) hc hcm hgl (hseg.onx (Onx.of_ext he _))
    (fun i k hk => by
     obtain ⟨g, h1, h2⟩ := hkids i k hk
     rw [hd] at h2
     exact ⟨g, h1, givF h2 he⟩) hgt hgv hok2
   rcases hk with hk | hk
   ·rw [hk]
    exact disp_32 98 _ _ w (fun r w' => Out _ r w' ∧ Far X r) (fun W => me_98_Version _ _ _ _ _ W) (fun W => me_98_Type _ _ _ _ _ W) (fun W => as_151_128 _ W) (gives_of hX fun W he hW => hm W he hW 32)
   ·rw [hk]
    exact disp_34 98 _ _ w (fun r w' => Out _ r w' ∧ Far X r) (fun W => me_98_Version _ _ _ _ _ W) (fun W => me_98_Type _ _ _ _ _ W) (fun W => as_151_128 _ W) (gives_of hX fun W he hW => hm W he hW 34)
  ·obtain ⟨t, t', te, ve, te', ve', hkt, rfl, hIt, hIt'⟩ : ∃ t t' te ve te' ve', T.kids = [t, t'] ∧ I = .iface 98 (.agg #[.int .u8 4, .int .i64 33, .string ⟨#[]⟩, .iface te ve, .iface te' ve']) ∧ InfoAt (fun _ => False) n w (.iface te ve) t ∧ InfoAt (fun _ => False) n w (.iface te' ve') t' := by
    rcases hI with ⟨_, h, _⟩ | ⟨h, _⟩ | ⟨_, h⟩ | ⟨h, _⟩ | ⟨h, _⟩
    ·omega
    ·omega
    ·exact h
    all_goals omega
   have hgt : Good n t := hgk t (by rw [hkt]; simp)
   have hgt' : Good n t' := hgk t' (by rw [hkt]; simp)
   obtain ⟨hkl, hgv, hgv'⟩ : V.keys.length = V.kids.length ∧ (∀ k ∈ V.keys, GoodV n t k) ∧ (∀ k ∈ V.kids, GoodV n t' k) := by
    rcases hV with ⟨h, _⟩ | ⟨h, _⟩ | ⟨_, hl, a, a', h1, h2, h3, h4⟩ | ⟨h, _⟩
    ·omega
    ·omega
    ·rw [hkt] at h1 h2
     injection h1 with h1
     injection h2 with h2
     subst h1; subst h2
     exact ⟨hl, h3, h4⟩
    ·omega
   have hd : T.kids.getD 0 Ty.bad = t := by rw [hkt]; rfl
   have hd' : T.kids.getD 1 Ty.bad = t' := by rw [hkt]; rfl
   have e : enc (n + 1) T V = beN (V.keys.length : Int) 4 ++ (V.keys.zip V.kids).flatMap (itm2 n t t') := by
    unfold enc
    rw [if_neg (by omega), if_neg (by omega), if_pos hk, hd, hd']
    congr 1
    exact flat_congr fun p hp => by simp [itm2, itm, itemB, (hgv _ (List.of_mem_zip hp).1).nul, (hgv' _ (List.of_mem_zip hp).2).nul]
   rw [e]
   exact disp_33 98 _ _ w (fun r w' => Out _ r w' ∧ Far X r) (fun W => me_98_Version _ _ _ _ _ W) (fun W => me_98_Type _ _ _ _ _ W) (fun W => as_148_128 _ W) (gives_of hX fun W he hW =>
    mar_map n (by omega) ih 33 te ve te' ve' t t' V.keys V.kids hkl (by omega) A c gs W X hW (infoF hIt he) (infoF hIt' he) hc hcm hgl (hseg.onx (Onx.of_ext he _))
     (fun i a b ha hb => by
      obtain ⟨g, g', h1, h2, h3, h4⟩ := hkids i a b ha hb
      rw [hd] at h3
      rw [hd'] at h4
      exact ⟨g, g', h1, h2, givF h3 he, givF h4 he⟩) hgt hgt' hgv hgv' hok1 hok2)
  ·obtain ⟨A', c', is, rfl, hc', hil, hsegI, hIs⟩ : ∃ A' c' is, I = .iface 100 (.agg #[.int .u8 4, .int .i64 49, .string ⟨#[]⟩, .slice A' T.kids.length c']) ∧ T.kids.length ≤ c' ∧ is.length = T.kids.length ∧ SegR (fun _ => False) w A' is ∧
     ∀ (i : Nat) (t : Ty), T.kids[i]? = some t → ∃ te ve, is[i]? = some (.iface te ve) ∧ InfoAt (fun _ => False) n w (.iface te ve) t := by
    rcases hI with ⟨_, h, _⟩ | ⟨h, _⟩ | ⟨h, _⟩ | ⟨_, h⟩ | ⟨h, _⟩
    ·omega
    ·omega
    ·omega
    ·exact h
    ·omega
   obtain ⟨hkl, hgv⟩ : V.kids.length = T.kids.length ∧ ∀ (i : Nat) (t : Ty) (k : Vl), T.kids[i]? = some t → V.kids[i]? = some k → k.sc.nul = true ∨ GoodV n t k := by
    rcases hV with ⟨h, _⟩ | ⟨h, _⟩ | ⟨h, _⟩ | ⟨_, _, hl, h⟩
    ·omega
    ·omega
    ·omega
    ·exact ⟨hl, fun i t k ht hk => (h i t k ht hk).elim .inr (fun h => .inl h.2.1)⟩
   have h1 : 1 ≤ T.kids.length := by unfold Shape at hsh; omega
   have e : enc (n + 1) T V = (T.kids.zip V.kids).flatMap (titm n) := by
    unfold enc
    rw [if_neg (by omega), if_neg (by omega), if_neg (by omega)]
    rfl
   rw [e]
   exact disp_49 100 _ _ w (fun r w' => Out _ r w' ∧ Far X r) (fun W => me_100_Version _ _ _ _ W) (fun W => me_100_Type _ _ _ _ W) (fun W => as_151_128 _ W) (gives_of hX fun W he hW =>
    mar_tuple n (by omega) ih 49 T.kids V.kids hkl (by omega) h20 A' c' is A c gs W X hW hc' hil (hsegI.onx (Onx.of_ext he _))
     (fun i t ht => by
      obtain ⟨te, ve, h1, h2⟩ := hIs i t ht
      exact ⟨te, ve, h1, infoF h2 he⟩) hc hcm hgl (hseg.onx (Onx.of_ext he _))
     (fun i t k ht hk => by
      obtain ⟨g, h1, h2⟩ := hkids i t k ht hk
      exact ⟨g, h1, givF h2 he⟩) hgk hgv hok2)
  ·obtain ⟨A', c', is, rfl, hc', hil, hsegI, hIs⟩ : ∃ A' c' is, I = .iface 103 (.agg #[.int .u8 4, .int .i64 48, .string ⟨#[]⟩, .string ⟨#[]⟩, .string ⟨#[]⟩, .slice A' T.kids.length c']) ∧ T.kids.length ≤ c' ∧ is.length = T.kids.length * 2 ∧ SegR (fun _ => False) w A' is ∧
     ∀ (i : Nat) (t : Ty), T.kids[i]? = some t → ∃ s te ve, T.names[i]? = some s ∧ is[i * 2]? = some (.string s) ∧ is[i * 2 + 1]? = some (.iface te ve) ∧ InfoAt (fun _ => False) n w (.iface te ve) t := by
    rcases hI with ⟨_, h, _⟩ | ⟨h, _⟩ | ⟨h, _⟩ | ⟨h, _⟩ | ⟨_, h⟩
    ·omega
    ·omega
    ·omega
    ·omega
    ·exact h
   obtain ⟨hkl, hgv⟩ : V.kids.length = T.kids.length ∧ ∀ (i : Nat) (t : Ty) (k : Vl), T.kids[i]? = some t → V.kids[i]? = some k → GoodV n t k := by
    rcases hV with ⟨h, _⟩ | ⟨h, _⟩ | ⟨h, _⟩ | ⟨_, _, hl, h⟩
    ·omega
    ·omega
    ·omega
    ·exact ⟨hl, fun i t k ht hk => (h i t k ht hk).elim id (fun h => by omega)⟩
   have h1 : 1 ≤ T.kids.length := by unfold Shape at hsh; omega
   have e : enc (n + 1) T V = (T.kids.zip V.kids).flatMap (titm n) := by
    unfold enc
    rw [if_neg (by omega), if_neg (by omega), if_neg (by omega)]
    rfl
   rw [e]
   exact disp_48 103 _ _ w (fun r w' => Out _ r w' ∧ Far X r) (fun W => me_103_Version _ _ _ _ _ _ W) (fun W => me_103_Type _ _ _ _ _ _ W) (fun W => as_152_128 _ W) (gives_of hX fun W he hW =>
    mar_udt n (by omega) ih 48 T.kids T.names V.kids hkl (by omega) h20 A' c' is mb gs W X hW hc' hil (hsegI.onx (Onx.of_ext he _))
     (fun i t ht => by
      obtain ⟨s, te, ve, h0, h1, h2, h3⟩ := hIs i t ht
      exact ⟨s, te, ve, h0, h1, h2, infoF h3 he⟩) ((Trans.onx (Onx.of_ext he _)).map _ _ _ hmap)
     (fun i t k ht hk => by
      obtain ⟨g, h1, h2⟩ := hkids i t k ht hk
      exact ⟨g, h1, givF h2 he⟩) hgk hgv hok2)
end Go.Proofs.YtammjbmfiakbnaaGreatDoor
