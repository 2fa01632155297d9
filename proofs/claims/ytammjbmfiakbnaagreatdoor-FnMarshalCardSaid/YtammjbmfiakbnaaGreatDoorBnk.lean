/- A part of the proof that the card of laws.FnMarshal holds. No conditions. -/
import Derived.Test.YtammjbmfiakbnaaGreatDoorM13
import Derived.Test.YtammjbmfiakbnaaGreatDoorPrt
set_option linter.unusedSimpArgs false
set_option linter.unusedVariables false
namespace Go.Proofs.YtammjbmfiakbnaaGreatDoor
open Go.RowKit
theorem FrameW.extw {w W wr : World} {p g g' : Nat} (hf : FrameW W wr p g g') (he : Ext w W) (hp : w.heap.size ≤ p) (hg : w.heap.size ≤ g) : Ext w wr := Below.trans he (hf.below hp hg he.size)
theorem bnd_le5 {n : Nat} (h : n ≤ 5) : bnd n < 2147483648 := Nat.lt_of_le_of_lt (bnd_mono h) bnd5
theorem take_flat {α : Type} (f : α → List UInt8) (l : List α) {i : Nat} (h : i < l.length) : (l.take (i + 1)).flatMap f = (l.take i).flatMap f ++ f l[i] := by
 rw [List.take_add_one, List.getElem?_eq_getElem h, List.flatMap_append]
 simp [List.flatMap_cons]
theorem enc32 (n : Nat) (T : Ty) (V : Vl) (t : Ty) (hk : T.kind = 32 ∨ T.kind = 34) (ht : T.kids[0]? = some t) : enc (n + 1) T V = beN (V.kids.length : Int) 4 ++ V.kids.flatMap (fun k => itemB k.sc.nul (enc n t k)) := by
 rw [enc, if_neg (by omega), if_pos hk, getD_of ht]
theorem enc33 (n : Nat) (T : Ty) (V : Vl) (t t' : Ty) (hk : T.kind = 33) (ht : T.kids[0]? = some t) (ht' : T.kids[1]? = some t') :
  enc (n + 1) T V = beN (V.keys.length : Int) 4 ++ (V.keys.zip V.kids).flatMap (fun p => itemB p.1.sc.nul (enc n t p.1) ++ itemB p.2.sc.nul (enc n t' p.2)) := by
 rw [enc, if_neg (by omega), if_neg (by omega), if_pos hk, getD_of ht, getD_of ht']
theorem enc48 (n : Nat) (T : Ty) (V : Vl) (hk : T.kind = 48 ∨ T.kind = 49) : enc (n + 1) T V = (T.kids.zip V.kids).flatMap (fun p => itemB p.2.sc.nul (enc n p.1 p.2)) := by
 rw [enc, if_neg (by omega), if_neg (by omega), if_neg (by omega)]
set_option maxRecDepth 100000 in
set_option maxHeartbeats 8000000 in
theorem bin_list32 (n : Nat) (hn5 : n ≤ 5) (hb : BinP n) (m m2 : Nat) (w : World) (tv : Value) (T : Ty) (vs : List Value) (V : Vl) (hT : TyAt (fun _ => False) m w tv T) (hV : VlAt (fun _ => False) m2 w vs V) (hG : Good (n + 1) T) (hg : GoodV (n + 1) T V) (h : T.kind = 32) :
  Calls Tryz.prog 14 #[tv, .agg vs.toArray] w fun e w' => ∃ r, e = .returned r ∧ OwnB w w' r (enc (n + 1) T V) := by
 obtain ⟨B, bc, B', bc', rfl⟩ := hT.form
 cases m2 with
 |zero => exact hV.elim
 |succ m2 =>
 cases m with
 |zero => exact hT.elim
 |succ m =>
 have hl1 : T.kids.length = 1 := by
  have := hG.2
  unfold Shape at this
  omega
 have hkt : T.kids[0]? = some T.kids[0] := List.getElem?_eq_getElem (by omega)
 have hkg : Good n T.kids[0] := hG.1 _ (List.getElem_mem _)
 generalize T.kids[0] = kt at hkt hkg
 have HT := Lib.hid (tkid_at hT hkt)
 have hgk : V.kids.length ≤ 20 ∧ ∀ k ∈ V.kids, GoodV n kt k := by
  obtain ⟨-, h20, hg⟩ := hg
  rcases hg with ⟨h', _⟩ | ⟨_, _, t, ht, hall⟩ | ⟨h', _⟩ | ⟨h', _⟩
  ·omega
  ·rw [hkt] at ht
   injection ht with ht
   subst ht
   exact ⟨h20, hall⟩
  ·omega
  ·omega
 obtain ⟨h20, hgk⟩ := hgk
 have Hgk := Lib.hid hgk
 have Hkt := Lib.hid hkt
 have Hkg := Lib.hid hkg
 have hbc : 0 < T.kids.length := by omega
 have hfl : ∀ l : List Vl, (∀ k ∈ l, GoodV n kt k) → (l.flatMap (fun k => itemB k.sc.nul (enc n kt k))).length ≤ l.length * (4 + bnd n) := fun l hl =>
  flat_len _ _ l (fun k hk => Nat.le_trans (item_len _ _) (by have := enc_len n kt k hkg (hl k hk); omega))
 have Hfl := Lib.hid hfl
 clear hgk hkt hkg hl1 hfl
 obtain ⟨A, c, A1, c1, A2, c2, rfl, q1, q2, q3, q4, q5, q6, hs, hd, hrow1, hrow⟩ := hV
 have HR := Lib.hid hrow
 have HR1 := Lib.hid hrow1
 have Hb := Lib.hid hb
 have hbn := bnd_le5 hn5
 clear hT hs hG hd hg hrow hrow1 hb
 simp only [vcells]
 unfold maxLen at q2 q4 q6
 go_enter Tryz.func14, Tryz.ntmps14
 go_upto_region 2 with fail
 generalize hW : World.alloc (World.alloc (World.alloc (World.alloc w _) _) _) _ = W
 have h0 : Blk W w.heap.size 35 #[.int .i64 32, .slice B T.kids.length bc, .slice B' T.names.length bc'] ∧ Blk W (w.heap.size + 1) 39 #[.bool V.sc.nul, .int .i64 V.sc.n, .float .f64 V.sc.f, .string V.sc.text, .slice A V.sc.data.length c, .int .i64 V.sc.scale, .int .i64 V.sc.months, .int .i64 V.sc.days, .int .i64 V.sc.nanos, .slice A1 V.keys.length c1, .slice A2 V.kids.length c2] ∧
   WrG W w.heap.size (w.heap.size + 1 + 1 + 1) (w.heap.size + 1 + 1) [] ∧ Ext w W := by
  rw [← hW]
  exact ⟨(((Blk.new w 35 _).alloc _).alloc _).alloc _, ((Blk.new' _ _ 39 _ (by simp)).alloc _).alloc _, ⟨by omega, 0, Blk.new' _ _ 70 _ (by simp), ⟨rfl, .inr ⟨w.heap.size + 1 + 1, 0, #[], rfl, by omega, (Blk.new' _ _ 5 _ (by simp)).alloc _, Nat.le_refl _, by decide, rfl, rfl⟩⟩⟩, ((((Ext.refl w).alloc _).alloc _).alloc _).alloc _⟩
 clear hW
 obtain ⟨hb1, hb2, hw0, hE⟩ := h0
 obtain ⟨b0, b1, b2⟩ := hb1.c3
 obtain ⟨d0, d1, d2, d3, d4, d5, d6, d7, d8, d9, d10⟩ := hb2.c11
 have hlt := hw0.row.2.2.1
 have HW0 := Lib.hid hw0
 have HE := Lib.hid hE
 have HB1 := Lib.hid hb1
 have HB2 := Lib.hid hb2
 clear hb1 hb2 hw0 hE
 have HL : Hid (enc (n + 1) T V = beN (V.kids.length : Int) 4 ++ V.kids.flatMap (fun k => itemB k.sc.nul (enc n kt k))) := Lib.hid (enc32 n T V kt (by omega) Hkt.out)
 obtain ⟨F, hF⟩ : ∃ F : Vl → List UInt8, F = fun k => itemB k.sc.nul (enc n kt k) := ⟨_, rfl⟩
 rw [← hF] at HL Hfl
 have HF := Lib.hid hF
 clear hF
 have h1 := put_x (V.kids.length : Int) 4 (by omega) w.heap.size (w.heap.size + 1 + 1 + 1) (w.heap.size + 1 + 1) [] (by simp) W HW0.out
 have H1 := Lib.hid h1
 clear h1
 go_wp2_with fail
 refine H1.out.mono ?_
 rintro e wa ⟨rfl, ga, hwa, hfa⟩
 simp only [List.nil_append] at hwa
 obtain ⟨d0, d1, d2, d3, d4, d5, d6, d7, d8, d9, d10⟩ := (HB2.out.frame hfa (by omega) (by omega)).c11
 have hsza := hfa.size
 have HWz := Lib.hid hwa
 have HFz := Lib.hid hfa
 clear hwa hfa H1
 go_wp2_with fail
 clear d0 d1 d2 d3 d4 d5 d6 d7 d8 d9 d10 b0 b1 b2
 go_loopw [130] (fun v wr => ∃ (i gr : Nat), i ≤ V.kids.length ∧ v = .int .i64 i ∧ WrG wr w.heap.size (w.heap.size + 1 + 1 + 1) gr (beN (V.kids.length : Int) 4 ++ (V.kids.take i).flatMap F) ∧ FrameW W wr (w.heap.size + 1 + 1 + 1) (w.heap.size + 1 + 1) gr) (fun v _ => V.kids.length - (intOf v).toNat)
 case atStart => exact ⟨0, ga, Nat.zero_le _, rfl, by simpa using HWz.out, HFz.out⟩
 case round =>
  obtain ⟨i, gr, hi, rfl, hw, hf⟩ := hrel
  have HWr := Lib.hid hw
  have HFr := Lib.hid hf
  have hrow' := hw.row
  clear hw hf
  by_cases hlti : (i : Int) < V.kids.length
  ·have hi' : i < V.kids.length := by omega
   have hki : V.kids[i]? = some V.kids[i] := List.getElem?_eq_getElem hi'
   have hstep := take_flat F V.kids hi'
   have Hgkv := Lib.hid (Hgk.out V.kids[i] (List.getElem_mem hi'))
   obtain ⟨b, o, xA, xc, xA1, xc1, xA2, xc2, hA, hb, hx, hrg⟩ := kid_at HR.out hki
   generalize V.kids[i] = kv at hki hx hrg hstep Hgkv
   subst hA
   have hEx : Ext w wr := HFr.out.extw HE.out (by omega) (by omega)
   have HK := Lib.hid (VlAt.onx (Onx.of_ext hEx _) _ _ _ hx)
   have Hstep := Lib.hid hstep
   have HX := Lib.hid hEx
   have hrange : wr.rangeAt b (o + i * 11) (vcells kv.sc xA xc xA1 kv.keys.length xc1 xA2 kv.kids.length xc2) := fun j u hu => hEx.cellS (hrg j u hu)
   have Hrange := Lib.hid hrange
   clear hx hki hEx hrg hrange hstep
   go_upto_region 43 with fail
   refine wp_region_lit ?_
   iterate 1 (refine wpList_plain rfl (fun K hK => ?_); go_simp; refine hK _ _ ?_; clear hK K; try simp only [aP, aN, aT, aZ, aS])
   refine wpList_load_mid rfl 39 _ rfl b (o + i * 11) (by rfl) (vcells kv.sc xA xc xA1 kv.keys.length xc1 xA2 kv.kids.length xc2) _ Hrange.out Tryz.underlying39 rfl hi39 ?_
   try simp only [aP, aN, aT, aZ, aS]
   iterate 1 (refine wpList_plain rfl (fun K hK => ?_); go_simp; refine hK _ _ ?_; clear hK K; try simp only [aP, aN, aT, aZ, aS])
   refine wpList_store_mid rfl 39 _ _ rfl wr.heap.size 0 (vcells kv.sc xA xc xA1 kv.keys.length xc1 xA2 kv.kids.length xc2).toArray (by rfl) (by rfl) ((Blk.new wr 39 #[.bool false, .int .i64 0, .float .f64 0, .string ⟨#[]⟩, .slice none 0 0, .int .i64 0, .int .i64 0, .int .i64 0, .int .i64 0, .slice none 0 0, .slice none 0 0]).there rfl) hi39 (by simp [vcells, Value.oneCell']) ?_
   generalize hW1 : World.setCells _ _ _ _ = W1
   have hB1 : Blk W1 wr.heap.size 39 (vcells kv.sc xA xc xA1 kv.keys.length xc1 xA2 kv.kids.length xc2).toArray := by
    rw [← hW1]
    exact Blk.setCells (Blk.new wr 39 #[.bool false, .int .i64 0, .float .f64 0, .string ⟨#[]⟩, .slice none 0 0, .int .i64 0, .int .i64 0, .int .i64 0, .int .i64 0, .slice none 0 0, .slice none 0 0]) rfl
   have hE1 : Ext wr W1 := by
    rw [← hW1]
    exact setCells_ext (Nat.le_refl _) _ _ _ ((Ext.refl wr).alloc _)
   have HE1 := Lib.hid hE1
   have hlt1 := hB1.lt
   have HB9 := Lib.hid hB1
   clear hW1 hB1 hE1
   go_upto_region 44 with fail
   obtain ⟨tb, tx, yA, yc, yA', yc', hB, htb, hty, g0, g1, g2⟩ := HT.out
   rw [Nat.zero_mul, Nat.add_zero] at g0 g1 g2
   subst hB
   have hx1 : Ext w W1.drew := (HX.out.trans HE1.out).drew
   have hFd : FrameW W W1.drew (w.heap.size + 1 + 1 + 1) (w.heap.size + 1 + 1) gr := HFr.out.trans (FrameW.of_ext HE1.out.drew _ _)
   have hlen : (beN (V.kids.length : Int) 4 ++ (V.kids.take i).flatMap F).length ≤ 109951162777 := by
    have h1 := Hfl.out (V.kids.take i) (fun k hk => Hgk.out k (List.mem_of_mem_take hk))
    have h2 : (V.kids.take i).length * (4 + bnd n) ≤ 20 * (4 + bnd n) := Nat.mul_le_mul_right _ (by simp; omega)
    rw [List.length_append, beN_len]
    omega
   have hcall := item_any n hn5 Hb.out m m2 W1.drew w.heap.size (w.heap.size + 1 + 1 + 1) gr _ _ kt _ kv hlen (HWr.out.ext HE1.out.drew) hx1.size (TyAt.onx (Onx.of_ext hx1 _) _ _ _ hty) (VlAt.onx (Onx.of_ext HE1.out.drew _) _ _ _ HK.out) Hkg.out (.inr Hgkv.out)
   have Hcall := Lib.hid hcall
   have hS : W1.drew.cell? ⟨w.heap.size, 1, none⟩ = some (.slice (some ⟨tb, tx, none⟩) T.kids.length bc) ∧ W1.drew.cell? ⟨tb, tx, none⟩ = some (.int .i64 kt.kind) ∧ W1.drew.cell? ⟨tb, tx + 1, none⟩ = some (.slice yA kt.kids.length yc) ∧ W1.drew.cell? ⟨tb, tx + 2, none⟩ = some (.slice yA' kt.names.length yc') ∧ W1.drew.rangeAt wr.heap.size 0 (vcells kv.sc xA xc xA1 kv.keys.length xc1 xA2 kv.kids.length xc2) :=
    ⟨(HB1.out.frame hFd (by omega) (by omega)).cell 1, hx1.cellS g0, hx1.cellS g1, hx1.cellS g2, Blk.range (HB9.out.ext ((Ext.refl W1).drew))⟩
   have HS := Lib.hid hS
   have HFd := Lib.hid hFd
   clear hcall hS hx1 hty g0 g1 g2 hFd
   refine wp_region_K (fun w' => w'.cell? ⟨w.heap.size, 1, none⟩ = some (.slice (some ⟨tb, tx, none⟩) T.kids.length bc) ∧ w'.cell? ⟨tb, tx, none⟩ = some (.int .i64 kt.kind) ∧ w'.cell? ⟨tb, tx + 1, none⟩ = some (.slice yA kt.kids.length yc) ∧ w'.cell? ⟨tb, tx + 2, none⟩ = some (.slice yA' kt.names.length yc') ∧ w'.rangeAt wr.heap.size 0 (vcells kv.sc xA xc xA1 kv.keys.length xc1 xA2 kv.kids.length xc2)) (ix [2, 4, 5]) 7 [false, false, false, false, false, false, false] (by kernel_rfl) rfl rfl ?_
   refine fV 0 (v := ?v44Lx0) rfl (by rfl) ?y44Lx0 ?_
   case y44Lx0 => intro w; go_simp; with_reducible rfl
   simp only [aP, aN, aT, aZ, aS]
   refine fV 1 (v := ?v44Lx1) rfl (by rfl) ?y44Lx1 ?_
   case y44Lx1 => intro w; go_simp; with_reducible rfl
   simp only [aP, aN, aT, aZ, aS]
   refine tV 2 (ix [3, 4, 6]) (v := ?v44Lx2) rfl HS.out (by rfl) ?y44Lx2 ?_
   case y44Lx2 => rintro w ⟨s1, s2, s3, s4, s5⟩; go_simp; with_reducible rfl
   simp only [aP, aN, aT, aZ, aS]
   refine fV 3 (v := ?v44Lx3) rfl (by rfl) ?y44Lx3 ?_
   case y44Lx3 => intro w; go_simp; with_reducible rfl
   simp only [aP, aN, aT, aZ, aS]
   refine tV 4 (ix [6]) (v := ?v44Lx4) rfl HS.out (by rfl) ?y44Lx4 ?_
   case y44Lx4 => rintro w ⟨s1, s2, s3, s4, s5⟩; go_simp; with_reducible rfl
   simp only [aP, aN, aT, aZ, aS]
   refine tG 5 (ix [6]) rfl HS.out (yieldsIf_load_mid (by rfl) 39 _ rfl wr.heap.size 0 (by rfl) (vcells kv.sc xA xc xA1 kv.keys.length xc1 xA2 kv.kids.length xc2) _ (fun w' h => h.2.2.2.2) Tryz.underlying39 rfl hi39) ?_
   simp only [aP, aN, aT, aZ, aS]
   refine wpAnyK_oneg 6 (by kernel_rfl) rfl (by rfl) (fun K' hK => ?_)
   go_simp
   refine Hcall.out.mono ?_
   rintro e w2 ⟨rfl, g2, hw2, hf2⟩
   refine hK.out _ _ (fun h => absurd h (by decide)) ?_
   clear hK K'
   simp only [aP, aN, aT, aZ, aS]
   refine wpAnyK_done (by kernel_rfl) ?_ _
   have hw3 : WrG w2 w.heap.size (w.heap.size + 1 + 1 + 1) g2 (beN (V.kids.length : Int) 4 ++ (V.kids.take (i + 1)).flatMap F) := by
    have hFk : itemB kv.sc.nul (enc n kt kv) = F kv := by rw [HF.out]
    rw [hFk, List.append_assoc, ← Hstep.out] at hw2
    exact hw2
   have Hw3 := Lib.hid hw3
   have Hf3 := Lib.hid (HFd.out.trans hf2)
   clear hw2 hf2 hw3
   go_wp2_with fail
   go_roundw
   case rel => exact ⟨i + 1, g2, by omega, by go_num, Hw3.out, Hf3.out⟩
   case measure => simp [intOf]; omega
  ·obtain rfl : i = V.kids.length := by omega
   have hwl := HWr.out
   rw [List.take_length, ← HL.out] at hwl
   have HFa := HFr
   obtain ⟨L, hL⟩ : ∃ L, enc (n + 1) T V = L := ⟨_, rfl⟩
   rw [hL] at hwl
   clear HL
   have HL := Lib.hid hL
   clear hL
   obtain ⟨cc, hcell, hown⟩ := wr_fin hwl HFa.out HE.out (by omega) (by omega)
   have Hown := Lib.hid hown
   clear hown hwl
   go_wp2_with fail
   go_ret
   exact ⟨_, rfl, by rw [HL.out]; exact Hown.out⟩
set_option maxRecDepth 100000 in
set_option maxHeartbeats 8000000 in
theorem bin_list34 (n : Nat) (hn5 : n ≤ 5) (hb : BinP n) (m m2 : Nat) (w : World) (tv : Value) (T : Ty) (vs : List Value) (V : Vl) (hT : TyAt (fun _ => False) m w tv T) (hV : VlAt (fun _ => False) m2 w vs V) (hG : Good (n + 1) T) (hg : GoodV (n + 1) T V) (h : T.kind = 34) :
  Calls Tryz.prog 14 #[tv, .agg vs.toArray] w fun e w' => ∃ r, e = .returned r ∧ OwnB w w' r (enc (n + 1) T V) := by
 obtain ⟨B, bc, B', bc', rfl⟩ := hT.form
 cases m2 with
 |zero => exact hV.elim
 |succ m2 =>
 cases m with
 |zero => exact hT.elim
 |succ m =>
 have hl1 : T.kids.length = 1 := by
  have := hG.2
  unfold Shape at this
  omega
 have hkt : T.kids[0]? = some T.kids[0] := List.getElem?_eq_getElem (by omega)
 have hkg : Good n T.kids[0] := hG.1 _ (List.getElem_mem _)
 generalize T.kids[0] = kt at hkt hkg
 have HT := Lib.hid (tkid_at hT hkt)
 have hgk : V.kids.length ≤ 20 ∧ ∀ k ∈ V.kids, GoodV n kt k := by
  obtain ⟨-, h20, hg⟩ := hg
  rcases hg with ⟨h', _⟩ | ⟨_, _, t, ht, hall⟩ | ⟨h', _⟩ | ⟨h', _⟩
  ·omega
  ·rw [hkt] at ht
   injection ht with ht
   subst ht
   exact ⟨h20, hall⟩
  ·omega
  ·omega
 obtain ⟨h20, hgk⟩ := hgk
 have Hgk := Lib.hid hgk
 have Hkt := Lib.hid hkt
 have Hkg := Lib.hid hkg
 have hbc : 0 < T.kids.length := by omega
 have hfl : ∀ l : List Vl, (∀ k ∈ l, GoodV n kt k) → (l.flatMap (fun k => itemB k.sc.nul (enc n kt k))).length ≤ l.length * (4 + bnd n) := fun l hl =>
  flat_len _ _ l (fun k hk => Nat.le_trans (item_len _ _) (by have := enc_len n kt k hkg (hl k hk); omega))
 have Hfl := Lib.hid hfl
 clear hgk hkt hkg hl1 hfl
 obtain ⟨A, c, A1, c1, A2, c2, rfl, q1, q2, q3, q4, q5, q6, hs, hd, hrow1, hrow⟩ := hV
 have HR := Lib.hid hrow
 have HR1 := Lib.hid hrow1
 have Hb := Lib.hid hb
 have hbn := bnd_le5 hn5
 clear hT hs hG hd hg hrow hrow1 hb
 simp only [vcells]
 unfold maxLen at q2 q4 q6
 go_enter Tryz.func14, Tryz.ntmps14
 go_upto_region 2 with fail
 generalize hW : World.alloc (World.alloc (World.alloc (World.alloc w _) _) _) _ = W
 have h0 : Blk W w.heap.size 35 #[.int .i64 34, .slice B T.kids.length bc, .slice B' T.names.length bc'] ∧ Blk W (w.heap.size + 1) 39 #[.bool V.sc.nul, .int .i64 V.sc.n, .float .f64 V.sc.f, .string V.sc.text, .slice A V.sc.data.length c, .int .i64 V.sc.scale, .int .i64 V.sc.months, .int .i64 V.sc.days, .int .i64 V.sc.nanos, .slice A1 V.keys.length c1, .slice A2 V.kids.length c2] ∧
   WrG W w.heap.size (w.heap.size + 1 + 1 + 1) (w.heap.size + 1 + 1) [] ∧ Ext w W := by
  rw [← hW]
  exact ⟨(((Blk.new w 35 _).alloc _).alloc _).alloc _, ((Blk.new' _ _ 39 _ (by simp)).alloc _).alloc _, ⟨by omega, 0, Blk.new' _ _ 70 _ (by simp), ⟨rfl, .inr ⟨w.heap.size + 1 + 1, 0, #[], rfl, by omega, (Blk.new' _ _ 5 _ (by simp)).alloc _, Nat.le_refl _, by decide, rfl, rfl⟩⟩⟩, ((((Ext.refl w).alloc _).alloc _).alloc _).alloc _⟩
 clear hW
 obtain ⟨hb1, hb2, hw0, hE⟩ := h0
 obtain ⟨b0, b1, b2⟩ := hb1.c3
 obtain ⟨d0, d1, d2, d3, d4, d5, d6, d7, d8, d9, d10⟩ := hb2.c11
 have hlt := hw0.row.2.2.1
 have HW0 := Lib.hid hw0
 have HE := Lib.hid hE
 have HB1 := Lib.hid hb1
 have HB2 := Lib.hid hb2
 clear hb1 hb2 hw0 hE
 have HL : Hid (enc (n + 1) T V = beN (V.kids.length : Int) 4 ++ V.kids.flatMap (fun k => itemB k.sc.nul (enc n kt k))) := Lib.hid (enc32 n T V kt (by omega) Hkt.out)
 obtain ⟨F, hF⟩ : ∃ F : Vl → List UInt8, F = fun k => itemB k.sc.nul (enc n kt k) := ⟨_, rfl⟩
 rw [← hF] at HL Hfl
 have HF := Lib.hid hF
 clear hF
 have h1 := put_x (V.kids.length : Int) 4 (by omega) w.heap.size (w.heap.size + 1 + 1 + 1) (w.heap.size + 1 + 1) [] (by simp) W HW0.out
 have H1 := Lib.hid h1
 clear h1
 go_wp2_with fail
 refine H1.out.mono ?_
 rintro e wa ⟨rfl, ga, hwa, hfa⟩
 simp only [List.nil_append] at hwa
 obtain ⟨d0, d1, d2, d3, d4, d5, d6, d7, d8, d9, d10⟩ := (HB2.out.frame hfa (by omega) (by omega)).c11
 have hsza := hfa.size
 have HWz := Lib.hid hwa
 have HFz := Lib.hid hfa
 clear hwa hfa H1
 go_wp2_with fail
 clear d0 d1 d2 d3 d4 d5 d6 d7 d8 d9 d10 b0 b1 b2
 go_loopw [130] (fun v wr => ∃ (i gr : Nat), i ≤ V.kids.length ∧ v = .int .i64 i ∧ WrG wr w.heap.size (w.heap.size + 1 + 1 + 1) gr (beN (V.kids.length : Int) 4 ++ (V.kids.take i).flatMap F) ∧ FrameW W wr (w.heap.size + 1 + 1 + 1) (w.heap.size + 1 + 1) gr) (fun v _ => V.kids.length - (intOf v).toNat)
 case atStart => exact ⟨0, ga, Nat.zero_le _, rfl, by simpa using HWz.out, HFz.out⟩
 case round =>
  obtain ⟨i, gr, hi, rfl, hw, hf⟩ := hrel
  have HWr := Lib.hid hw
  have HFr := Lib.hid hf
  have hrow' := hw.row
  clear hw hf
  by_cases hlti : (i : Int) < V.kids.length
  ·have hi' : i < V.kids.length := by omega
   have hki : V.kids[i]? = some V.kids[i] := List.getElem?_eq_getElem hi'
   have hstep := take_flat F V.kids hi'
   have Hgkv := Lib.hid (Hgk.out V.kids[i] (List.getElem_mem hi'))
   obtain ⟨b, o, xA, xc, xA1, xc1, xA2, xc2, hA, hb, hx, hrg⟩ := kid_at HR.out hki
   generalize V.kids[i] = kv at hki hx hrg hstep Hgkv
   subst hA
   have hEx : Ext w wr := HFr.out.extw HE.out (by omega) (by omega)
   have HK := Lib.hid (VlAt.onx (Onx.of_ext hEx _) _ _ _ hx)
   have Hstep := Lib.hid hstep
   have HX := Lib.hid hEx
   have hrange : wr.rangeAt b (o + i * 11) (vcells kv.sc xA xc xA1 kv.keys.length xc1 xA2 kv.kids.length xc2) := fun j u hu => hEx.cellS (hrg j u hu)
   have Hrange := Lib.hid hrange
   clear hx hki hEx hrg hrange hstep
   go_upto_region 43 with fail
   refine wp_region_lit ?_
   iterate 1 (refine wpList_plain rfl (fun K hK => ?_); go_simp; refine hK _ _ ?_; clear hK K; try simp only [aP, aN, aT, aZ, aS])
   refine wpList_load_mid rfl 39 _ rfl b (o + i * 11) (by rfl) (vcells kv.sc xA xc xA1 kv.keys.length xc1 xA2 kv.kids.length xc2) _ Hrange.out Tryz.underlying39 rfl hi39 ?_
   try simp only [aP, aN, aT, aZ, aS]
   iterate 1 (refine wpList_plain rfl (fun K hK => ?_); go_simp; refine hK _ _ ?_; clear hK K; try simp only [aP, aN, aT, aZ, aS])
   refine wpList_store_mid rfl 39 _ _ rfl wr.heap.size 0 (vcells kv.sc xA xc xA1 kv.keys.length xc1 xA2 kv.kids.length xc2).toArray (by rfl) (by rfl) ((Blk.new wr 39 #[.bool false, .int .i64 0, .float .f64 0, .string ⟨#[]⟩, .slice none 0 0, .int .i64 0, .int .i64 0, .int .i64 0, .int .i64 0, .slice none 0 0, .slice none 0 0]).there rfl) hi39 (by simp [vcells, Value.oneCell']) ?_
   generalize hW1 : World.setCells _ _ _ _ = W1
   have hB1 : Blk W1 wr.heap.size 39 (vcells kv.sc xA xc xA1 kv.keys.length xc1 xA2 kv.kids.length xc2).toArray := by
    rw [← hW1]
    exact Blk.setCells (Blk.new wr 39 #[.bool false, .int .i64 0, .float .f64 0, .string ⟨#[]⟩, .slice none 0 0, .int .i64 0, .int .i64 0, .int .i64 0, .int .i64 0, .slice none 0 0, .slice none 0 0]) rfl
   have hE1 : Ext wr W1 := by
    rw [← hW1]
    exact setCells_ext (Nat.le_refl _) _ _ _ ((Ext.refl wr).alloc _)
   have HE1 := Lib.hid hE1
   have hlt1 := hB1.lt
   have HB9 := Lib.hid hB1
   clear hW1 hB1 hE1
   go_upto_region 44 with fail
   obtain ⟨tb, tx, yA, yc, yA', yc', hB, htb, hty, g0, g1, g2⟩ := HT.out
   rw [Nat.zero_mul, Nat.add_zero] at g0 g1 g2
   subst hB
   have hx1 : Ext w W1.drew := (HX.out.trans HE1.out).drew
   have hFd : FrameW W W1.drew (w.heap.size + 1 + 1 + 1) (w.heap.size + 1 + 1) gr := HFr.out.trans (FrameW.of_ext HE1.out.drew _ _)
   have hlen : (beN (V.kids.length : Int) 4 ++ (V.kids.take i).flatMap F).length ≤ 109951162777 := by
    have h1 := Hfl.out (V.kids.take i) (fun k hk => Hgk.out k (List.mem_of_mem_take hk))
    have h2 : (V.kids.take i).length * (4 + bnd n) ≤ 20 * (4 + bnd n) := Nat.mul_le_mul_right _ (by simp; omega)
    rw [List.length_append, beN_len]
    omega
   have hcall := item_any n hn5 Hb.out m m2 W1.drew w.heap.size (w.heap.size + 1 + 1 + 1) gr _ _ kt _ kv hlen (HWr.out.ext HE1.out.drew) hx1.size (TyAt.onx (Onx.of_ext hx1 _) _ _ _ hty) (VlAt.onx (Onx.of_ext HE1.out.drew _) _ _ _ HK.out) Hkg.out (.inr Hgkv.out)
   have Hcall := Lib.hid hcall
   have hS : W1.drew.cell? ⟨w.heap.size, 1, none⟩ = some (.slice (some ⟨tb, tx, none⟩) T.kids.length bc) ∧ W1.drew.cell? ⟨tb, tx, none⟩ = some (.int .i64 kt.kind) ∧ W1.drew.cell? ⟨tb, tx + 1, none⟩ = some (.slice yA kt.kids.length yc) ∧ W1.drew.cell? ⟨tb, tx + 2, none⟩ = some (.slice yA' kt.names.length yc') ∧ W1.drew.rangeAt wr.heap.size 0 (vcells kv.sc xA xc xA1 kv.keys.length xc1 xA2 kv.kids.length xc2) :=
    ⟨(HB1.out.frame hFd (by omega) (by omega)).cell 1, hx1.cellS g0, hx1.cellS g1, hx1.cellS g2, Blk.range (HB9.out.ext ((Ext.refl W1).drew))⟩
   have HS := Lib.hid hS
   have HFd := Lib.hid hFd
   clear hcall hS hx1 hty g0 g1 g2 hFd
   refine wp_region_K (fun w' => w'.cell? ⟨w.heap.size, 1, none⟩ = some (.slice (some ⟨tb, tx, none⟩) T.kids.length bc) ∧ w'.cell? ⟨tb, tx, none⟩ = some (.int .i64 kt.kind) ∧ w'.cell? ⟨tb, tx + 1, none⟩ = some (.slice yA kt.kids.length yc) ∧ w'.cell? ⟨tb, tx + 2, none⟩ = some (.slice yA' kt.names.length yc') ∧ w'.rangeAt wr.heap.size 0 (vcells kv.sc xA xc xA1 kv.keys.length xc1 xA2 kv.kids.length xc2)) (ix [2, 4, 5]) 7 [false, false, false, false, false, false, false] (by kernel_rfl) rfl rfl ?_
   refine fV 0 (v := ?v44Lx0) rfl (by rfl) ?y44Lx0 ?_
   case y44Lx0 => intro w; go_simp; with_reducible rfl
   simp only [aP, aN, aT, aZ, aS]
   refine fV 1 (v := ?v44Lx1) rfl (by rfl) ?y44Lx1 ?_
   case y44Lx1 => intro w; go_simp; with_reducible rfl
   simp only [aP, aN, aT, aZ, aS]
   refine tV 2 (ix [3, 4, 6]) (v := ?v44Lx2) rfl HS.out (by rfl) ?y44Lx2 ?_
   case y44Lx2 => rintro w ⟨s1, s2, s3, s4, s5⟩; go_simp; with_reducible rfl
   simp only [aP, aN, aT, aZ, aS]
   refine fV 3 (v := ?v44Lx3) rfl (by rfl) ?y44Lx3 ?_
   case y44Lx3 => intro w; go_simp; with_reducible rfl
   simp only [aP, aN, aT, aZ, aS]
   refine tV 4 (ix [6]) (v := ?v44Lx4) rfl HS.out (by rfl) ?y44Lx4 ?_
   case y44Lx4 => rintro w ⟨s1, s2, s3, s4, s5⟩; go_simp; with_reducible rfl
   simp only [aP, aN, aT, aZ, aS]
   refine tG 5 (ix [6]) rfl HS.out (yieldsIf_load_mid (by rfl) 39 _ rfl wr.heap.size 0 (by rfl) (vcells kv.sc xA xc xA1 kv.keys.length xc1 xA2 kv.kids.length xc2) _ (fun w' h => h.2.2.2.2) Tryz.underlying39 rfl hi39) ?_
   simp only [aP, aN, aT, aZ, aS]
   refine wpAnyK_oneg 6 (by kernel_rfl) rfl (by rfl) (fun K' hK => ?_)
   go_simp
   refine Hcall.out.mono ?_
   rintro e w2 ⟨rfl, g2, hw2, hf2⟩
   refine hK.out _ _ (fun h => absurd h (by decide)) ?_
   clear hK K'
   simp only [aP, aN, aT, aZ, aS]
   refine wpAnyK_done (by kernel_rfl) ?_ _
   have hw3 : WrG w2 w.heap.size (w.heap.size + 1 + 1 + 1) g2 (beN (V.kids.length : Int) 4 ++ (V.kids.take (i + 1)).flatMap F) := by
    have hFk : itemB kv.sc.nul (enc n kt kv) = F kv := by rw [HF.out]
    rw [hFk, List.append_assoc, ← Hstep.out] at hw2
    exact hw2
   have Hw3 := Lib.hid hw3
   have Hf3 := Lib.hid (HFd.out.trans hf2)
   clear hw2 hf2 hw3
   go_wp2_with fail
   go_roundw
   case rel => exact ⟨i + 1, g2, by omega, by go_num, Hw3.out, Hf3.out⟩
   case measure => simp [intOf]; omega
  ·obtain rfl : i = V.kids.length := by omega
   have hwl := HWr.out
   rw [List.take_length, ← HL.out] at hwl
   have HFa := HFr
   obtain ⟨L, hL⟩ : ∃ L, enc (n + 1) T V = L := ⟨_, rfl⟩
   rw [hL] at hwl
   clear HL
   have HL := Lib.hid hL
   clear hL
   obtain ⟨cc, hcell, hown⟩ := wr_fin hwl HFa.out HE.out (by omega) (by omega)
   have Hown := Lib.hid hown
   clear hown hwl
   go_wp2_with fail
   go_ret
   exact ⟨_, rfl, by rw [HL.out]; exact Hown.out⟩
set_option maxRecDepth 100000 in
set_option maxHeartbeats 8000000 in
theorem bin_map (n : Nat) (hn5 : n ≤ 5) (hb : BinP n) (m m2 : Nat) (w : World) (tv : Value) (T : Ty) (vs : List Value) (V : Vl) (hT : TyAt (fun _ => False) m w tv T) (hV : VlAt (fun _ => False) m2 w vs V) (hG : Good (n + 1) T) (hg : GoodV (n + 1) T V) (h : T.kind = 33) :
  Calls Tryz.prog 14 #[tv, .agg vs.toArray] w fun e w' => ∃ r, e = .returned r ∧ OwnB w w' r (enc (n + 1) T V) := by
 obtain ⟨B, bc, B', bc', rfl⟩ := hT.form
 cases m2 with
 |zero => exact hV.elim
 |succ m2 =>
 cases m with
 |zero => exact hT.elim
 |succ m =>
 have hl1 : T.kids.length = 2 := by
  have := hG.2
  unfold Shape at this
  omega
 have hkt : T.kids[0]? = some T.kids[0] := List.getElem?_eq_getElem (by omega)
 have hkg : Good n T.kids[0] := hG.1 _ (List.getElem_mem _)
 have hmt : T.kids[1]? = some T.kids[1] := List.getElem?_eq_getElem (by omega)
 have hmg : Good n T.kids[1] := hG.1 _ (List.getElem_mem _)
 generalize T.kids[0] = kt at hkt hkg
 generalize T.kids[1] = lt at hmt hmg
 have HT := Lib.hid (tkid_at hT hkt)
 have HU := Lib.hid (tkid_at hT hmt)
 have hgk : V.keys.length = V.kids.length ∧ V.kids.length ≤ 20 ∧ (∀ k ∈ V.keys, GoodV n kt k) ∧ ∀ k ∈ V.kids, GoodV n lt k := by
  obtain ⟨-, h20, hg⟩ := hg
  rcases hg with ⟨h', _⟩ | ⟨h', _⟩ | ⟨_, hl, t, t', ht, ht', hall, hall'⟩ | ⟨h', _⟩
  ·omega
  ·omega
  ·rw [hkt] at ht
   injection ht with ht
   subst ht
   rw [hmt] at ht'
   injection ht' with ht'
   subst ht'
   exact ⟨hl, h20, hall, hall'⟩
  ·omega
 obtain ⟨hkl, h20, hgk, hgk'⟩ := hgk
 have Hgk := Lib.hid hgk
 have Hgk' := Lib.hid hgk'
 have Hkt := Lib.hid hkt
 have Hkg := Lib.hid hkg
 have Hmt := Lib.hid hmt
 have Hmg := Lib.hid hmg
 have hbc : 0 < T.kids.length := by omega
 have hbd : (1 : Int) < (T.kids.length : Int) := by omega
 have hfl : ∀ l : List (Vl × Vl), (∀ p ∈ l, GoodV n kt p.1 ∧ GoodV n lt p.2) → (l.flatMap (fun p : Vl × Vl => itemB p.1.sc.nul (enc n kt p.1) ++ itemB p.2.sc.nul (enc n lt p.2))).length ≤ l.length * (2 * (4 + bnd n)) := fun l hl =>
  flat_len _ _ l (fun p hp => by
   have a1 := enc_len n kt p.1 hkg (hl p hp).1
   have a2 := enc_len n lt p.2 hmg (hl p hp).2
   have a3 := item_len p.1.sc.nul (enc n kt p.1)
   have a4 := item_len p.2.sc.nul (enc n lt p.2)
   rw [List.length_append]
   omega)
 have Hfl := Lib.hid hfl
 have Hkl := Lib.hid hkl
 clear hgk hgk' hkt hkg hmt hmg hl1 hfl hkl
 obtain ⟨A, c, A1, c1, A2, c2, rfl, q1, q2, q3, q4, q5, q6, hs, hd, hrow1, hrow⟩ := hV
 have HR := Lib.hid hrow
 have HR1 := Lib.hid hrow1
 have Hb := Lib.hid hb
 have hbn := bnd_le5 hn5
 clear hT hs hG hd hg hrow hrow1 hb
 simp only [vcells]
 unfold maxLen at q2 q4 q6
 go_enter Tryz.func14, Tryz.ntmps14
 go_upto_region 2 with fail
 generalize hW : World.alloc (World.alloc (World.alloc (World.alloc w _) _) _) _ = W
 have h0 : Blk W w.heap.size 35 #[.int .i64 33, .slice B T.kids.length bc, .slice B' T.names.length bc'] ∧ Blk W (w.heap.size + 1) 39 #[.bool V.sc.nul, .int .i64 V.sc.n, .float .f64 V.sc.f, .string V.sc.text, .slice A V.sc.data.length c, .int .i64 V.sc.scale, .int .i64 V.sc.months, .int .i64 V.sc.days, .int .i64 V.sc.nanos, .slice A1 V.keys.length c1, .slice A2 V.kids.length c2] ∧
   WrG W w.heap.size (w.heap.size + 1 + 1 + 1) (w.heap.size + 1 + 1) [] ∧ Ext w W := by
  rw [← hW]
  exact ⟨(((Blk.new w 35 _).alloc _).alloc _).alloc _, ((Blk.new' _ _ 39 _ (by simp)).alloc _).alloc _, ⟨by omega, 0, Blk.new' _ _ 70 _ (by simp), ⟨rfl, .inr ⟨w.heap.size + 1 + 1, 0, #[], rfl, by omega, (Blk.new' _ _ 5 _ (by simp)).alloc _, Nat.le_refl _, by decide, rfl, rfl⟩⟩⟩, ((((Ext.refl w).alloc _).alloc _).alloc _).alloc _⟩
 clear hW
 obtain ⟨hb1, hb2, hw0, hE⟩ := h0
 obtain ⟨b0, b1, b2⟩ := hb1.c3
 obtain ⟨d0, d1, d2, d3, d4, d5, d6, d7, d8, d9, d10⟩ := hb2.c11
 have hlt := hw0.row.2.2.1
 have HW0 := Lib.hid hw0
 have HE := Lib.hid hE
 have HB1 := Lib.hid hb1
 have HB2 := Lib.hid hb2
 clear hb1 hb2 hw0 hE
 have HL : Hid (enc (n + 1) T V = beN (V.keys.length : Int) 4 ++ (V.keys.zip V.kids).flatMap (fun p => itemB p.1.sc.nul (enc n kt p.1) ++ itemB p.2.sc.nul (enc n lt p.2))) := Lib.hid (enc33 n T V kt lt h Hkt.out Hmt.out)
 obtain ⟨F, hF⟩ : ∃ F : Vl × Vl → List UInt8, F = fun p => itemB p.1.sc.nul (enc n kt p.1) ++ itemB p.2.sc.nul (enc n lt p.2) := ⟨_, rfl⟩
 rw [← hF] at HL Hfl
 have HF := Lib.hid hF
 clear hF
 have h1 := put_x (V.keys.length : Int) 4 (by omega) w.heap.size (w.heap.size + 1 + 1 + 1) (w.heap.size + 1 + 1) [] (by simp) W HW0.out
 have H1 := Lib.hid h1
 clear h1
 go_wp2_with fail
 refine H1.out.mono ?_
 rintro e wa ⟨rfl, ga, hwa, hfa⟩
 simp only [List.nil_append] at hwa
 obtain ⟨d0, d1, d2, d3, d4, d5, d6, d7, d8, d9, d10⟩ := (HB2.out.frame hfa (by omega) (by omega)).c11
 have hsza := hfa.size
 have HWz := Lib.hid hwa
 have HFz := Lib.hid hfa
 clear hwa hfa H1
 go_wp2_with fail
 clear d0 d1 d2 d3 d4 d5 d6 d7 d8 d9 d10 b0 b1 b2
 go_loopw [152] (fun v wr => ∃ (i gr : Nat), i ≤ V.keys.length ∧ v = .int .i64 i ∧ WrG wr w.heap.size (w.heap.size + 1 + 1 + 1) gr (beN (V.keys.length : Int) 4 ++ ((V.keys.zip V.kids).take i).flatMap F) ∧ FrameW W wr (w.heap.size + 1 + 1 + 1) (w.heap.size + 1 + 1) gr) (fun v _ => V.keys.length - (intOf v).toNat)
 case atStart => exact ⟨0, ga, Nat.zero_le _, rfl, by simpa using HWz.out, HFz.out⟩
 case round =>
  obtain ⟨i, gr, hi, rfl, hw, hf⟩ := hrel
  have HWr := Lib.hid hw
  have HFr := Lib.hid hf
  have hrow' := hw.row
  clear hw hf
  by_cases hlti : (i : Int) < V.keys.length
  ·have hi' : i < V.keys.length := by omega
   have hj' : i < V.kids.length := by have := Hkl.out; omega
   have hltj : (i : Int) < V.kids.length := by omega
   have hiz : i < (V.keys.zip V.kids).length := by rw [List.length_zip]; omega
   have hstep := take_flat F (V.keys.zip V.kids) hiz
   rw [List.getElem_zip] at hstep
   have Hgkv := Lib.hid (Hgk.out V.keys[i] (List.getElem_mem hi'))
   have Hgkw := Lib.hid (Hgk'.out V.kids[i] (List.getElem_mem hj'))
   have hkx : V.keys[i]? = some V.keys[i] := List.getElem?_eq_getElem hi'
   obtain ⟨b1, o1, xA, xc, xA1, xc1, xA2, xc2, hA, hb1, hx1, hr1⟩ := kid_at HR1.out hkx
   generalize V.keys[i] = kx at hkx hx1 hr1 hstep Hgkv
   subst hA
   have hky : V.kids[i]? = some V.kids[i] := List.getElem?_eq_getElem hj'
   obtain ⟨b2, o2, zA, zc, zA1, zc1, zA2, zc2, hA, hb2, hx2, hr2⟩ := kid_at HR.out hky
   generalize V.kids[i] = ky at hky hx2 hr2 hstep Hgkw
   subst hA
   obtain ⟨tb, tx, yA, yc, yA', yc', hB, htb, hty, g0, g1, g2⟩ := HT.out
   subst hB
   rw [Nat.zero_mul, Nat.add_zero] at g0 g1 g2
   obtain ⟨tb', tx', uA, uc, uA', uc', hB, htb', htu, f0, f1, f2⟩ := HU.out
   injection hB with hB
   injection hB with hB1 hB2
   subst hB1
   subst hB2
   rw [Nat.one_mul] at f0 f1 f2
   have hEx : Ext w wr := HFr.out.extw HE.out (by omega) (by omega)
   have HX := Lib.hid hEx
   have Hstep := Lib.hid hstep
   have hFd : FrameW W wr.drew (w.heap.size + 1 + 1 + 1) (w.heap.size + 1 + 1) gr := HFr.out.trans (FrameW.of_ext (Ext.refl wr).drew _ _)
   have hS1 : wr.drew.cell? ⟨w.heap.size, 1, none⟩ = some (.slice (some ⟨tb, tx, none⟩) T.kids.length bc) ∧ wr.drew.cell? ⟨w.heap.size + 1, 9, none⟩ = some (.slice (some ⟨b1, o1, none⟩) V.keys.length c1) ∧ wr.drew.cell? ⟨tb, tx, none⟩ = some (.int .i64 kt.kind) ∧ wr.drew.cell? ⟨tb, tx + 1, none⟩ = some (.slice yA kt.kids.length yc) ∧ wr.drew.cell? ⟨tb, tx + 2, none⟩ = some (.slice yA' kt.names.length yc') ∧ wr.drew.rangeAt b1 (o1 + i * 11) (vcells kx.sc xA xc xA1 kx.keys.length xc1 xA2 kx.kids.length xc2) :=
    ⟨(HB1.out.frame hFd (by omega) (by omega)).cell 1, (HB2.out.frame hFd (by omega) (by omega)).cell 9, hEx.drew.cellS g0, hEx.drew.cellS g1, hEx.drew.cellS g2, fun j u hu => hEx.drew.cellS (hr1 j u hu)⟩
   have hS2 : ∀ (wz : World) (gz : Nat), FrameW W wz (w.heap.size + 1 + 1 + 1) (w.heap.size + 1 + 1) gz → wz.cell? ⟨w.heap.size, 1, none⟩ = some (.slice (some ⟨tb, tx, none⟩) T.kids.length bc) ∧ wz.cell? ⟨w.heap.size + 1, 10, none⟩ = some (.slice (some ⟨b2, o2, none⟩) V.kids.length c2) ∧ wz.cell? ⟨tb, tx + 3, none⟩ = some (.int .i64 lt.kind) ∧ wz.cell? ⟨tb, tx + 4, none⟩ = some (.slice uA lt.kids.length uc) ∧ wz.cell? ⟨tb, tx + 5, none⟩ = some (.slice uA' lt.names.length uc') ∧ wz.rangeAt b2 (o2 + i * 11) (vcells ky.sc zA zc zA1 ky.keys.length zc1 zA2 ky.kids.length zc2) := fun wz gz hFd => by
    have hEx : Ext w wz := hFd.extw HE.out (by omega) (by omega)
    exact ⟨(HB1.out.frame hFd (by omega) (by omega)).cell 1, (HB2.out.frame hFd (by omega) (by omega)).cell 10, hEx.cellS f0, hEx.cellS f1, hEx.cellS f2, fun j u hu => hEx.cellS (hr2 j u hu)⟩
   have hlen : (beN (V.keys.length : Int) 4 ++ ((V.keys.zip V.kids).take i).flatMap F).length ≤ 100000000000 := by
    have h1 := Hfl.out ((V.keys.zip V.kids).take i) (fun p hp => by
     have := List.of_mem_zip (List.mem_of_mem_take hp)
     exact ⟨Hgk.out _ this.1, Hgk'.out _ this.2⟩)
    have h2 : ((V.keys.zip V.kids).take i).length * (2 * (4 + bnd n)) ≤ 20 * (2 * (4 + bnd n)) := Nat.mul_le_mul_right _ (by simp; omega)
    rw [List.length_append, beN_len]
    omega
   have hcall1 := item_any n hn5 Hb.out m m2 wr.drew w.heap.size (w.heap.size + 1 + 1 + 1) gr _ _ kt _ kx (by omega) (HWr.out.ext (Ext.refl wr).drew) hEx.drew.size (TyAt.onx (Onx.of_ext hEx.drew _) _ _ _ hty) (VlAt.onx (Onx.of_ext hEx.drew _) _ _ _ hx1) Hkg.out (.inr Hgkv.out)
   have hlen2 : (beN (V.keys.length : Int) 4 ++ ((V.keys.zip V.kids).take i).flatMap F ++ itemB kx.sc.nul (enc n kt kx)).length ≤ 109951162777 := by
    have a1 := enc_len n kt kx Hkg.out Hgkv.out
    have a3 := item_len kx.sc.nul (enc n kt kx)
    rw [List.length_append]
    omega
   have hcall2 : ∀ (wz : World) (gz : Nat), FrameW W wz (w.heap.size + 1 + 1 + 1) (w.heap.size + 1 + 1) gz → WrG wz w.heap.size (w.heap.size + 1 + 1 + 1) gz (beN (V.keys.length : Int) 4 ++ ((V.keys.zip V.kids).take i).flatMap F ++ itemB kx.sc.nul (enc n kt kx)) → _ := fun wz gz hFd hWz => by
    have hEx : Ext w wz := hFd.extw HE.out (by omega) (by omega)
    exact item_any n hn5 Hb.out m m2 wz w.heap.size (w.heap.size + 1 + 1 + 1) gz _ _ lt _ ky hlen2 hWz hEx.size (TyAt.onx (Onx.of_ext hEx _) _ _ _ htu) (VlAt.onx (Onx.of_ext hEx _) _ _ _ hx2) Hmg.out (.inr Hgkw.out)
   have HS1 := Lib.hid hS1
   have HS2 := Lib.hid hS2
   have HFd := Lib.hid hFd
   have Hcall1 := Lib.hid hcall1
   have Hcall2 := Lib.hid hcall2
   clear hx1 hx2 hkx hky hEx hr1 hr2 hstep hty htu g0 g1 g2 f0 f1 f2 hS1 hS2 hFd hcall1 hcall2 hlen hlen2
   go_upto_region 51 with fail
   refine wp_region_K (fun w' => w'.cell? ⟨w.heap.size, 1, none⟩ = some (.slice (some ⟨tb, tx, none⟩) T.kids.length bc) ∧ w'.cell? ⟨w.heap.size + 1, 9, none⟩ = some (.slice (some ⟨b1, o1, none⟩) V.keys.length c1) ∧ w'.cell? ⟨tb, tx, none⟩ = some (.int .i64 kt.kind) ∧ w'.cell? ⟨tb, tx + 1, none⟩ = some (.slice yA kt.kids.length yc) ∧ w'.cell? ⟨tb, tx + 2, none⟩ = some (.slice yA' kt.names.length yc') ∧ w'.rangeAt b1 (o1 + i * 11) (vcells kx.sc xA xc xA1 kx.keys.length xc1 xA2 kx.kids.length xc2)) (ix [2, 4, 6, 8, 9]) 11 [false, false, false, false, false, false, false, false, false, false, false] (by kernel_rfl) rfl rfl ?_
   refine fV 0 (v := ?v51Lx0) rfl (by rfl) ?y51Lx0 ?_
   case y51Lx0 => intro w; go_simp; with_reducible rfl
   simp only [aP, aN, aT, aZ, aS]
   refine fV 1 (v := ?v51Lx1) rfl (by rfl) ?y51Lx1 ?_
   case y51Lx1 => intro w; go_simp; with_reducible rfl
   simp only [aP, aN, aT, aZ, aS]
   refine fV 5 (v := ?v51Lx5) rfl (by rfl) ?y51Lx5 ?_
   case y51Lx5 => intro w; go_simp; with_reducible rfl
   simp only [aP, aN, aT, aZ, aS]
   refine fV 7 (v := ?v51Lx7) rfl (by rfl) ?y51Lx7 ?_
   case y51Lx7 => intro w; go_simp; with_reducible rfl
   simp only [aP, aN, aT, aZ, aS]
   refine tV 2 (ix [3, 4, 10]) (v := ?v51Lx2) rfl HS1.out (by rfl) ?y51Lx2 ?_
   case y51Lx2 => rintro w ⟨s1, s2, s3, s4, s5, s6⟩; go_simp; with_reducible rfl
   simp only [aP, aN, aT, aZ, aS]
   refine fV 3 (v := ?v51Lx3) rfl (by rfl) ?y51Lx3 ?_
   case y51Lx3 => intro w; go_simp; with_reducible rfl
   simp only [aP, aN, aT, aZ, aS]
   refine tV 4 (ix [10]) (v := ?v51Lx4) rfl HS1.out (by rfl) ?y51Lx4 ?_
   case y51Lx4 => rintro w ⟨s1, s2, s3, s4, s5, s6⟩; go_simp; with_reducible rfl
   simp only [aP, aN, aT, aZ, aS]
   refine tV 6 (ix [8, 9, 10]) (v := ?v51Lx6) rfl HS1.out (by rfl) ?y51Lx6 ?_
   case y51Lx6 => rintro w ⟨s1, s2, s3, s4, s5, s6⟩; go_simp; with_reducible rfl
   simp only [aP, aN, aT, aZ, aS]
   refine tV 8 (ix [9, 10]) (v := ?v51Lx8) rfl HS1.out (by rfl) ?y51Lx8 ?_
   case y51Lx8 => rintro w ⟨s1, s2, s3, s4, s5, s6⟩; go_simp; with_reducible rfl
   simp only [aP, aN, aT, aZ, aS]
   refine tG 9 (ix [10]) rfl HS1.out (yieldsIf_load_mid (by rfl) 39 _ rfl b1 (o1 + i * 11) (by rfl) (vcells kx.sc xA xc xA1 kx.keys.length xc1 xA2 kx.kids.length xc2) _ (fun w' h => h.2.2.2.2.2) Tryz.underlying39 rfl hi39) ?_
   simp only [aP, aN, aT, aZ, aS]
   refine wpAnyK_oneg 10 (by kernel_rfl) rfl (by rfl) (fun K' hK => ?_)
   go_simp
   refine Hcall1.out.mono ?_
   rintro e w2 ⟨rfl, g2, hw2, hf2⟩
   refine hK.out _ _ (fun h => absurd h (by decide)) ?_
   clear hK K'
   simp only [aP, aN, aT, aZ, aS]
   refine wpAnyK_done (by kernel_rfl) ?_ _
   have hf3 := HFd.out.trans hf2
   have hf4 : FrameW W w2.drew (w.heap.size + 1 + 1 + 1) (w.heap.size + 1 + 1) g2 := hf3.trans (FrameW.of_ext (Ext.refl w2).drew _ _)
   have Hcall3 := Lib.hid (Hcall2.out w2.drew g2 hf4 (hw2.ext (Ext.refl w2).drew))
   have HS3 := Lib.hid (HS2.out w2.drew g2 hf4)
   have hrow2 := hw2.row
   have Hf4 := Lib.hid hf4
   clear hw2 hf2 hf3 hf4
   go_upto_region 52 with fail
   refine wp_region_K (fun w' => w'.cell? ⟨w.heap.size, 1, none⟩ = some (.slice (some ⟨tb, tx, none⟩) T.kids.length bc) ∧ w'.cell? ⟨w.heap.size + 1, 10, none⟩ = some (.slice (some ⟨b2, o2, none⟩) V.kids.length c2) ∧ w'.cell? ⟨tb, tx + 3, none⟩ = some (.int .i64 lt.kind) ∧ w'.cell? ⟨tb, tx + 4, none⟩ = some (.slice uA lt.kids.length uc) ∧ w'.cell? ⟨tb, tx + 5, none⟩ = some (.slice uA' lt.names.length uc') ∧ w'.rangeAt b2 (o2 + i * 11) (vcells ky.sc zA zc zA1 ky.keys.length zc1 zA2 ky.kids.length zc2)) (ix [2, 4, 6, 8, 9]) 11 [false, false, false, false, false, false, false, false, false, false, false] (by kernel_rfl) rfl rfl ?_
   refine fV 0 (v := ?v52Mx0) rfl (by rfl) ?y52Mx0 ?_
   case y52Mx0 => intro w; go_simp; with_reducible rfl
   simp only [aP, aN, aT, aZ, aS]
   refine fV 1 (v := ?v52Mx1) rfl (by rfl) ?y52Mx1 ?_
   case y52Mx1 => intro w; go_simp; with_reducible rfl
   simp only [aP, aN, aT, aZ, aS]
   refine fV 5 (v := ?v52Mx5) rfl (by rfl) ?y52Mx5 ?_
   case y52Mx5 => intro w; go_simp; with_reducible rfl
   simp only [aP, aN, aT, aZ, aS]
   refine fV 7 (v := ?v52Mx7) rfl (by rfl) ?y52Mx7 ?_
   case y52Mx7 => intro w; go_simp; with_reducible rfl
   simp only [aP, aN, aT, aZ, aS]
   refine tV 2 (ix [3, 4, 10]) (v := ?v52Mx2) rfl HS3.out (by rfl) ?y52Mx2 ?_
   case y52Mx2 => rintro w ⟨s1, s2, s3, s4, s5, s6⟩; go_simp; with_reducible rfl
   simp only [aP, aN, aT, aZ, aS]
   refine fV 3 (v := ?v52Mx3) rfl (by rfl) ?y52Mx3 ?_
   case y52Mx3 => intro w; go_simp; with_reducible rfl
   simp only [aP, aN, aT, aZ, aS]
   refine tV 4 (ix [10]) (v := ?v52Mx4) rfl HS3.out (by rfl) ?y52Mx4 ?_
   case y52Mx4 => rintro w ⟨s1, s2, s3, s4, s5, s6⟩; go_simp; with_reducible rfl
   simp only [aP, aN, aT, aZ, aS]
   refine tV 6 (ix [8, 9, 10]) (v := ?v52Mx6) rfl HS3.out (by rfl) ?y52Mx6 ?_
   case y52Mx6 => rintro w ⟨s1, s2, s3, s4, s5, s6⟩; go_simp; with_reducible rfl
   simp only [aP, aN, aT, aZ, aS]
   refine tV 8 (ix [9, 10]) (v := ?v52Mx8) rfl HS3.out (by rfl) ?y52Mx8 ?_
   case y52Mx8 => rintro w ⟨s1, s2, s3, s4, s5, s6⟩; go_simp; with_reducible rfl
   simp only [aP, aN, aT, aZ, aS]
   refine tG 9 (ix [10]) rfl HS3.out (yieldsIf_load_mid (by rfl) 39 _ rfl b2 (o2 + i * 11) (by rfl) (vcells ky.sc zA zc zA1 ky.keys.length zc1 zA2 ky.kids.length zc2) _ (fun w' h => h.2.2.2.2.2) Tryz.underlying39 rfl hi39) ?_
   simp only [aP, aN, aT, aZ, aS]
   refine wpAnyK_oneg 10 (by kernel_rfl) rfl (by rfl) (fun K' hK => ?_)
   go_simp
   refine Hcall3.out.mono ?_
   rintro e w3 ⟨rfl, g3, hw3, hf3⟩
   refine hK.out _ _ (fun h => absurd h (by decide)) ?_
   clear hK K'
   simp only [aP, aN, aT, aZ, aS]
   refine wpAnyK_done (by kernel_rfl) ?_ _
   have hw4 : WrG w3 w.heap.size (w.heap.size + 1 + 1 + 1) g3 (beN (V.keys.length : Int) 4 ++ ((V.keys.zip V.kids).take (i + 1)).flatMap F) := by
    have hFk : itemB kx.sc.nul (enc n kt kx) ++ itemB ky.sc.nul (enc n lt ky) = F (kx, ky) := by rw [HF.out]
    rw [List.append_assoc, List.append_assoc, hFk, ← Hstep.out] at hw3
    exact hw3
   have Hw4 := Lib.hid hw4
   have Hf5 := Lib.hid (Hf4.out.trans hf3)
   clear hw3 hf3 hw4
   go_wp2_with fail
   go_roundw
   case rel => exact ⟨i + 1, g3, by omega, by go_num, Hw4.out, Hf5.out⟩
   case measure => simp [intOf]; omega
  ·obtain rfl : i = V.keys.length := by omega
   have hwl := HWr.out
   rw [List.take_of_length_le (by rw [List.length_zip]; omega), ← HL.out] at hwl
   have HFa := HFr
   obtain ⟨L, hL⟩ : ∃ L, enc (n + 1) T V = L := ⟨_, rfl⟩
   rw [hL] at hwl
   clear HL
   have HL := Lib.hid hL
   clear hL
   obtain ⟨cc, hcell, hown⟩ := wr_fin hwl HFa.out HE.out (by omega) (by omega)
   have Hown := Lib.hid hown
   clear hown hwl
   go_wp2_with fail
   go_ret
   exact ⟨_, rfl, by rw [HL.out]; exact Hown.out⟩
set_option maxRecDepth 100000 in
set_option maxHeartbeats 8000000 in
theorem bin_tup48 (n : Nat) (hn5 : n ≤ 5) (hb : BinP n) (m m2 : Nat) (w : World) (tv : Value) (T : Ty) (vs : List Value) (V : Vl) (hT : TyAt (fun _ => False) m w tv T) (hV : VlAt (fun _ => False) m2 w vs V) (hG : Good (n + 1) T) (hg : GoodV (n + 1) T V) (h : T.kind = 48) :
  Calls Tryz.prog 14 #[tv, .agg vs.toArray] w fun e w' => ∃ r, e = .returned r ∧ OwnB w w' r (enc (n + 1) T V) := by
 obtain ⟨B, bc, B', bc', rfl⟩ := hT.form
 cases m2 with
 |zero => exact hV.elim
 |succ m2 =>
 cases m with
 |zero => exact hT.elim
 |succ m =>
 have HTK : Hid (∀ i t, T.kids[i]? = some t → _) := Lib.hid (fun i t ht => tkid_at hT ht)
 have HGK := Lib.hid (fun t (ht : t ∈ T.kids) => hG.1 t ht)
 have hfew := hG.2.few
 have hgk : V.kids.length = T.kids.length ∧ ∀ (i : Nat) (t : Ty) (k : Vl), T.kids[i]? = some t → V.kids[i]? = some k → k.sc.nul = true ∨ GoodV n t k := by
  obtain ⟨-, h20, hg⟩ := hg
  rcases hg with ⟨h', _⟩ | ⟨h', _⟩ | ⟨h', _⟩ | ⟨_, _, hl, hall⟩
  ·omega
  ·omega
  ·omega
  ·refine ⟨hl, fun i t k ht hk => ?_⟩
   rcases hall i t k ht hk with hg | ⟨_, hn, _⟩
   ·exact .inr hg
   ·exact .inl hn
 obtain ⟨hkl, hgk⟩ := hgk
 have Hgk := Lib.hid hgk
 have hfl : ∀ (i : Nat) (t : Ty) (k : Vl), T.kids[i]? = some t → V.kids[i]? = some k → (itemB k.sc.nul (enc n t k)).length ≤ 4 + bnd n := fun i t k ht hk => by
  rcases hgk i t k ht hk with hn | hg
  ·rw [hn]
   simp only [itemB, if_true, beN_len]
   omega
  ·have a1 := enc_len n t k (hG.1 t (List.mem_of_getElem? ht)) hg
   have a3 := item_len k.sc.nul (enc n t k)
   omega
 have Hfl := Lib.hid hfl
 have Hkl := Lib.hid hkl
 clear hgk hfl hkl
 obtain ⟨A, c, A1, c1, A2, c2, rfl, q1, q2, q3, q4, q5, q6, hs, hd, hrow1, hrow⟩ := hV
 have HR := Lib.hid hrow
 have HR1 := Lib.hid hrow1
 have Hb := Lib.hid hb
 have hbn := bnd_le5 hn5
 clear hT hs hG hd hg hrow hrow1 hb
 simp only [vcells]
 unfold maxLen at q2 q4 q6
 go_enter Tryz.func14, Tryz.ntmps14
 go_upto_region 2 with fail
 generalize hW : World.alloc (World.alloc (World.alloc (World.alloc w _) _) _) _ = W
 have h0 : Blk W w.heap.size 35 #[.int .i64 48, .slice B T.kids.length bc, .slice B' T.names.length bc'] ∧ Blk W (w.heap.size + 1) 39 #[.bool V.sc.nul, .int .i64 V.sc.n, .float .f64 V.sc.f, .string V.sc.text, .slice A V.sc.data.length c, .int .i64 V.sc.scale, .int .i64 V.sc.months, .int .i64 V.sc.days, .int .i64 V.sc.nanos, .slice A1 V.keys.length c1, .slice A2 V.kids.length c2] ∧
   WrG W w.heap.size (w.heap.size + 1 + 1 + 1) (w.heap.size + 1 + 1) [] ∧ Ext w W := by
  rw [← hW]
  exact ⟨(((Blk.new w 35 _).alloc _).alloc _).alloc _, ((Blk.new' _ _ 39 _ (by simp)).alloc _).alloc _, ⟨by omega, 0, Blk.new' _ _ 70 _ (by simp), ⟨rfl, .inr ⟨w.heap.size + 1 + 1, 0, #[], rfl, by omega, (Blk.new' _ _ 5 _ (by simp)).alloc _, Nat.le_refl _, by decide, rfl, rfl⟩⟩⟩, ((((Ext.refl w).alloc _).alloc _).alloc _).alloc _⟩
 clear hW
 obtain ⟨hb1, hb2, hw0, hE⟩ := h0
 obtain ⟨b0, b1, b2⟩ := hb1.c3
 obtain ⟨d0, d1, d2, d3, d4, d5, d6, d7, d8, d9, d10⟩ := hb2.c11
 have hlt := hw0.row.2.2.1
 have HW0 := Lib.hid hw0
 have HE := Lib.hid hE
 have HB1 := Lib.hid hb1
 have HB2 := Lib.hid hb2
 clear hb1 hb2 hw0 hE
 have HL : Hid (enc (n + 1) T V = (T.kids.zip V.kids).flatMap (fun p => itemB p.2.sc.nul (enc n p.1 p.2))) := Lib.hid (enc48 n T V (by omega))
 obtain ⟨F, hF⟩ : ∃ F : Ty × Vl → List UInt8, F = fun p => itemB p.2.sc.nul (enc n p.1 p.2) := ⟨_, rfl⟩
 rw [← hF] at HL
 have HF := Lib.hid hF
 clear hF
 go_wp2_with fail
 clear h
 clear d0 d1 d2 d3 d4 d5 d6 d7 d8 d9 d10 b0 b1 b2
 go_loopw [184] (fun v wr => ∃ (i gr : Nat), i ≤ V.kids.length ∧ v = .int .i64 i ∧ WrG wr w.heap.size (w.heap.size + 1 + 1 + 1) gr (((T.kids.zip V.kids).take i).flatMap F) ∧ FrameW W wr (w.heap.size + 1 + 1 + 1) (w.heap.size + 1 + 1) gr) (fun v _ => V.kids.length - (intOf v).toNat)
 case atStart => exact ⟨0, (w.heap.size + 1 + 1), Nat.zero_le _, rfl, by simpa using HW0.out, FrameW.refl _ _ _⟩
 case round =>
  obtain ⟨i, gr, hi, rfl, hw, hf⟩ := hrel
  have HWr := Lib.hid hw
  have HFr := Lib.hid hf
  have hrow' := hw.row
  clear hw hf
  by_cases hlti : (i : Int) < V.kids.length
  ·have hi' : i < V.kids.length := by omega
   have hj' : i < T.kids.length := by have := Hkl.out; omega
   have hltj : (i : Int) < T.kids.length := by omega
   have hki : V.kids[i]? = some V.kids[i] := List.getElem?_eq_getElem hi'
   have hkt : T.kids[i]? = some T.kids[i] := List.getElem?_eq_getElem hj'
   have hiz : i < (T.kids.zip V.kids).length := by rw [List.length_zip]; omega
   have hstep := take_flat F (T.kids.zip V.kids) hiz
   rw [List.getElem_zip] at hstep
   have Hgkv := Lib.hid (Hgk.out i _ _ hkt hki)
   have Hkg := Lib.hid (HGK.out _ (List.getElem_mem hj'))
   obtain ⟨tb, tx, yA, yc, yA', yc', hB, htb, hty, g0, g1, g2⟩ := HTK.out i _ hkt
   generalize T.kids[i] = kt at hkt hty g0 g1 g2 hstep Hgkv Hkg
   subst hB
   obtain ⟨b, o, xA, xc, xA1, xc1, xA2, xc2, hA, hb, hx, hrg⟩ := kid_at HR.out hki
   generalize V.kids[i] = kv at hki hx hrg hstep Hgkv
   subst hA
   have hEx : Ext w wr := HFr.out.extw HE.out (by omega) (by omega)
   have HK := Lib.hid (VlAt.onx (Onx.of_ext hEx _) _ _ _ hx)
   have HTy := Lib.hid hty
   have HG0 := Lib.hid (And.intro g0 (And.intro g1 g2))
   have Hstep := Lib.hid hstep
   have HX := Lib.hid hEx
   have hrange : wr.rangeAt b (o + i * 11) (vcells kv.sc xA xc xA1 kv.keys.length xc1 xA2 kv.kids.length xc2) := fun j u hu => hEx.cellS (hrg j u hu)
   have Hrange := Lib.hid hrange
   clear hx hki hkt hEx hrg hrange hstep hty g0 g1 g2
   go_upto_region 58 with fail
   refine wp_region_lit ?_
   iterate 2 (refine wpList_plain rfl (fun K hK => ?_); go_simp; refine hK _ _ ?_; clear hK K; try simp only [aP, aN, aT, aZ, aS])
   refine wpList_load_mid rfl 39 _ rfl b (o + i * 11) (by rfl) (vcells kv.sc xA xc xA1 kv.keys.length xc1 xA2 kv.kids.length xc2) _ Hrange.out Tryz.underlying39 rfl hi39 ?_
   try simp only [aP, aN, aT, aZ, aS]
   iterate 2 (refine wpList_plain rfl (fun K hK => ?_); go_simp; refine hK _ _ ?_; clear hK K; try simp only [aP, aN, aT, aZ, aS])
   refine wpList_store_mid rfl 39 _ _ rfl wr.heap.size 0 (vcells kv.sc xA xc xA1 kv.keys.length xc1 xA2 kv.kids.length xc2).toArray (by rfl) (by rfl) ((Blk.new wr 39 #[.bool false, .int .i64 0, .float .f64 0, .string ⟨#[]⟩, .slice none 0 0, .int .i64 0, .int .i64 0, .int .i64 0, .int .i64 0, .slice none 0 0, .slice none 0 0]).there rfl) hi39 (by simp [vcells, Value.oneCell']) ?_
   generalize hW1 : World.setCells _ _ _ _ = W1
   have hB1 : Blk W1 wr.heap.size 39 (vcells kv.sc xA xc xA1 kv.keys.length xc1 xA2 kv.kids.length xc2).toArray := by
    rw [← hW1]
    exact Blk.setCells (Blk.new wr 39 #[.bool false, .int .i64 0, .float .f64 0, .string ⟨#[]⟩, .slice none 0 0, .int .i64 0, .int .i64 0, .int .i64 0, .int .i64 0, .slice none 0 0, .slice none 0 0]) rfl
   have hE1 : Ext wr W1 := by
    rw [← hW1]
    exact setCells_ext (Nat.le_refl _) _ _ _ ((Ext.refl wr).alloc _)
   have HE1 := Lib.hid hE1
   have hlt1 := hB1.lt
   have HB9 := Lib.hid hB1
   clear hW1 hB1 hE1
   go_upto_region 59 with fail
   obtain ⟨g0, g1, g2⟩ := HG0.out
   have hx1 : Ext w W1.drew := (HX.out.trans HE1.out).drew
   have hFd : FrameW W W1.drew (w.heap.size + 1 + 1 + 1) (w.heap.size + 1 + 1) gr := HFr.out.trans (FrameW.of_ext HE1.out.drew _ _)
   have hlen : (((T.kids.zip V.kids).take i).flatMap F).length ≤ 109951162777 := by
    have h1 := flat_len F (4 + bnd n) ((T.kids.zip V.kids).take i) (fun p hp => by
     obtain ⟨j, hj⟩ := List.mem_iff_getElem?.1 (List.mem_of_mem_take hp)
     rw [List.getElem?_zip_eq_some] at hj
     rw [HF.out]
     exact Hfl.out j p.1 p.2 hj.1 hj.2)
    have h2 : ((T.kids.zip V.kids).take i).length * (4 + bnd n) ≤ 10 * (4 + bnd n) := Nat.mul_le_mul_right _ (by simp; omega)
    omega
   have hcall := item_any n hn5 Hb.out m m2 W1.drew w.heap.size (w.heap.size + 1 + 1 + 1) gr _ _ kt _ kv hlen (HWr.out.ext HE1.out.drew) hx1.size (TyAt.onx (Onx.of_ext hx1 _) _ _ _ HTy.out) (VlAt.onx (Onx.of_ext HE1.out.drew _) _ _ _ HK.out) Hkg.out Hgkv.out
   have Hcall := Lib.hid hcall
   have hS : W1.drew.cell? ⟨w.heap.size, 1, none⟩ = some (.slice (some ⟨tb, tx, none⟩) T.kids.length bc) ∧ W1.drew.cell? ⟨tb, tx + i * 3, none⟩ = some (.int .i64 kt.kind) ∧ W1.drew.cell? ⟨tb, tx + i * 3 + 1, none⟩ = some (.slice yA kt.kids.length yc) ∧ W1.drew.cell? ⟨tb, tx + i * 3 + 2, none⟩ = some (.slice yA' kt.names.length yc') ∧ W1.drew.rangeAt wr.heap.size 0 (vcells kv.sc xA xc xA1 kv.keys.length xc1 xA2 kv.kids.length xc2) :=
    ⟨(HB1.out.frame hFd (by omega) (by omega)).cell 1, hx1.cellS g0, hx1.cellS g1, hx1.cellS g2, Blk.range (HB9.out.ext ((Ext.refl W1).drew))⟩
   have HS := Lib.hid hS
   have HFd := Lib.hid hFd
   clear hcall hS hx1 g0 g1 g2 hFd
   refine wp_region_K (fun w' => w'.cell? ⟨w.heap.size, 1, none⟩ = some (.slice (some ⟨tb, tx, none⟩) T.kids.length bc) ∧ w'.cell? ⟨tb, tx + i * 3, none⟩ = some (.int .i64 kt.kind) ∧ w'.cell? ⟨tb, tx + i * 3 + 1, none⟩ = some (.slice yA kt.kids.length yc) ∧ w'.cell? ⟨tb, tx + i * 3 + 2, none⟩ = some (.slice yA' kt.names.length yc') ∧ w'.rangeAt wr.heap.size 0 (vcells kv.sc xA xc xA1 kv.keys.length xc1 xA2 kv.kids.length xc2)) (ix [2, 5, 6]) 8 [false, false, false, false, false, false, false, false] (by kernel_rfl) rfl rfl ?_
   refine fV 0 (v := ?v59Lx0) rfl (by rfl) ?y59Lx0 ?_
   case y59Lx0 => intro w; go_simp; with_reducible rfl
   simp only [aP, aN, aT, aZ, aS]
   refine fV 1 (v := ?v59Lx1) rfl (by rfl) ?y59Lx1 ?_
   case y59Lx1 => intro w; go_simp; with_reducible rfl
   simp only [aP, aN, aT, aZ, aS]
   refine fV 3 (v := ?v59Lx3) rfl (by rfl) ?y59Lx3 ?_
   case y59Lx3 => intro w; go_simp; with_reducible rfl
   simp only [aP, aN, aT, aZ, aS]
   refine tV 2 (ix [4, 5, 7]) (v := ?v59Lx2) rfl HS.out (by rfl) ?y59Lx2 ?_
   case y59Lx2 => rintro w ⟨s1, s2, s3, s4, s5⟩; go_simp; with_reducible rfl
   simp only [aP, aN, aT, aZ, aS]
   refine fV 4 (v := ?v59Lx4) rfl (by rfl) ?y59Lx4 ?_
   case y59Lx4 => intro w; go_simp; with_reducible rfl
   simp only [aP, aN, aT, aZ, aS]
   refine tV 5 (ix [7]) (v := ?v59Lx5) rfl HS.out (by rfl) ?y59Lx5 ?_
   case y59Lx5 => rintro w ⟨s1, s2, s3, s4, s5⟩; go_simp; with_reducible rfl
   simp only [aP, aN, aT, aZ, aS]
   refine tG 6 (ix [7]) rfl HS.out (yieldsIf_load_mid (by rfl) 39 _ rfl wr.heap.size 0 (by rfl) (vcells kv.sc xA xc xA1 kv.keys.length xc1 xA2 kv.kids.length xc2) _ (fun w' h => h.2.2.2.2) Tryz.underlying39 rfl hi39) ?_
   simp only [aP, aN, aT, aZ, aS]
   refine wpAnyK_oneg 7 (by kernel_rfl) rfl (by rfl) (fun K' hK => ?_)
   go_simp
   refine Hcall.out.mono ?_
   rintro e w2 ⟨rfl, g2, hw2, hf2⟩
   refine hK.out _ _ (fun h => absurd h (by decide)) ?_
   clear hK K'
   simp only [aP, aN, aT, aZ, aS]
   refine wpAnyK_done (by kernel_rfl) ?_ _
   have hw3 : WrG w2 w.heap.size (w.heap.size + 1 + 1 + 1) g2 (((T.kids.zip V.kids).take (i + 1)).flatMap F) := by
    have hFk : itemB kv.sc.nul (enc n kt kv) = F (kt, kv) := by rw [HF.out]
    rw [hFk, ← Hstep.out] at hw2
    exact hw2
   have Hw3 := Lib.hid hw3
   have Hf3 := Lib.hid (HFd.out.trans hf2)
   clear hw2 hf2 hw3
   go_wp2_with fail
   go_roundw
   case rel => exact ⟨i + 1, g2, by omega, by go_num, Hw3.out, Hf3.out⟩
   case measure => simp [intOf]; omega
  ·obtain rfl : i = V.kids.length := by omega
   have hwl := HWr.out
   rw [List.take_of_length_le (by rw [List.length_zip]; omega), ← HL.out] at hwl
   have HFa := HFr
   obtain ⟨L, hL⟩ : ∃ L, enc (n + 1) T V = L := ⟨_, rfl⟩
   rw [hL] at hwl
   clear HL
   have HL := Lib.hid hL
   clear hL
   obtain ⟨cc, hcell, hown⟩ := wr_fin hwl HFa.out HE.out (by omega) (by omega)
   have Hown := Lib.hid hown
   clear hown hwl
   go_wp2_with fail
   go_ret
   exact ⟨_, rfl, by rw [HL.out]; exact Hown.out⟩
set_option maxRecDepth 100000 in
set_option maxHeartbeats 8000000 in
theorem bin_tup49 (n : Nat) (hn5 : n ≤ 5) (hb : BinP n) (m m2 : Nat) (w : World) (tv : Value) (T : Ty) (vs : List Value) (V : Vl) (hT : TyAt (fun _ => False) m w tv T) (hV : VlAt (fun _ => False) m2 w vs V) (hG : Good (n + 1) T) (hg : GoodV (n + 1) T V) (h : T.kind = 49) :
  Calls Tryz.prog 14 #[tv, .agg vs.toArray] w fun e w' => ∃ r, e = .returned r ∧ OwnB w w' r (enc (n + 1) T V) := by
 obtain ⟨B, bc, B', bc', rfl⟩ := hT.form
 cases m2 with
 |zero => exact hV.elim
 |succ m2 =>
 cases m with
 |zero => exact hT.elim
 |succ m =>
 have HTK : Hid (∀ i t, T.kids[i]? = some t → _) := Lib.hid (fun i t ht => tkid_at hT ht)
 have HGK := Lib.hid (fun t (ht : t ∈ T.kids) => hG.1 t ht)
 have hfew := hG.2.few
 have hgk : V.kids.length = T.kids.length ∧ ∀ (i : Nat) (t : Ty) (k : Vl), T.kids[i]? = some t → V.kids[i]? = some k → k.sc.nul = true ∨ GoodV n t k := by
  obtain ⟨-, h20, hg⟩ := hg
  rcases hg with ⟨h', _⟩ | ⟨h', _⟩ | ⟨h', _⟩ | ⟨_, _, hl, hall⟩
  ·omega
  ·omega
  ·omega
  ·refine ⟨hl, fun i t k ht hk => ?_⟩
   rcases hall i t k ht hk with hg | ⟨_, hn, _⟩
   ·exact .inr hg
   ·exact .inl hn
 obtain ⟨hkl, hgk⟩ := hgk
 have Hgk := Lib.hid hgk
 have hfl : ∀ (i : Nat) (t : Ty) (k : Vl), T.kids[i]? = some t → V.kids[i]? = some k → (itemB k.sc.nul (enc n t k)).length ≤ 4 + bnd n := fun i t k ht hk => by
  rcases hgk i t k ht hk with hn | hg
  ·rw [hn]
   simp only [itemB, if_true, beN_len]
   omega
  ·have a1 := enc_len n t k (hG.1 t (List.mem_of_getElem? ht)) hg
   have a3 := item_len k.sc.nul (enc n t k)
   omega
 have Hfl := Lib.hid hfl
 have Hkl := Lib.hid hkl
 clear hgk hfl hkl
 obtain ⟨A, c, A1, c1, A2, c2, rfl, q1, q2, q3, q4, q5, q6, hs, hd, hrow1, hrow⟩ := hV
 have HR := Lib.hid hrow
 have HR1 := Lib.hid hrow1
 have Hb := Lib.hid hb
 have hbn := bnd_le5 hn5
 clear hT hs hG hd hg hrow hrow1 hb
 simp only [vcells]
 unfold maxLen at q2 q4 q6
 go_enter Tryz.func14, Tryz.ntmps14
 go_upto_region 2 with fail
 generalize hW : World.alloc (World.alloc (World.alloc (World.alloc w _) _) _) _ = W
 have h0 : Blk W w.heap.size 35 #[.int .i64 49, .slice B T.kids.length bc, .slice B' T.names.length bc'] ∧ Blk W (w.heap.size + 1) 39 #[.bool V.sc.nul, .int .i64 V.sc.n, .float .f64 V.sc.f, .string V.sc.text, .slice A V.sc.data.length c, .int .i64 V.sc.scale, .int .i64 V.sc.months, .int .i64 V.sc.days, .int .i64 V.sc.nanos, .slice A1 V.keys.length c1, .slice A2 V.kids.length c2] ∧
   WrG W w.heap.size (w.heap.size + 1 + 1 + 1) (w.heap.size + 1 + 1) [] ∧ Ext w W := by
  rw [← hW]
  exact ⟨(((Blk.new w 35 _).alloc _).alloc _).alloc _, ((Blk.new' _ _ 39 _ (by simp)).alloc _).alloc _, ⟨by omega, 0, Blk.new' _ _ 70 _ (by simp), ⟨rfl, .inr ⟨w.heap.size + 1 + 1, 0, #[], rfl, by omega, (Blk.new' _ _ 5 _ (by simp)).alloc _, Nat.le_refl _, by decide, rfl, rfl⟩⟩⟩, ((((Ext.refl w).alloc _).alloc _).alloc _).alloc _⟩
 clear hW
 obtain ⟨hb1, hb2, hw0, hE⟩ := h0
 obtain ⟨b0, b1, b2⟩ := hb1.c3
 obtain ⟨d0, d1, d2, d3, d4, d5, d6, d7, d8, d9, d10⟩ := hb2.c11
 have hlt := hw0.row.2.2.1
 have HW0 := Lib.hid hw0
 have HE := Lib.hid hE
 have HB1 := Lib.hid hb1
 have HB2 := Lib.hid hb2
 clear hb1 hb2 hw0 hE
 have HL : Hid (enc (n + 1) T V = (T.kids.zip V.kids).flatMap (fun p => itemB p.2.sc.nul (enc n p.1 p.2))) := Lib.hid (enc48 n T V (by omega))
 obtain ⟨F, hF⟩ : ∃ F : Ty × Vl → List UInt8, F = fun p => itemB p.2.sc.nul (enc n p.1 p.2) := ⟨_, rfl⟩
 rw [← hF] at HL
 have HF := Lib.hid hF
 clear hF
 go_wp2_with fail
 clear h
 clear d0 d1 d2 d3 d4 d5 d6 d7 d8 d9 d10 b0 b1 b2
 go_loopw [184] (fun v wr => ∃ (i gr : Nat), i ≤ V.kids.length ∧ v = .int .i64 i ∧ WrG wr w.heap.size (w.heap.size + 1 + 1 + 1) gr (((T.kids.zip V.kids).take i).flatMap F) ∧ FrameW W wr (w.heap.size + 1 + 1 + 1) (w.heap.size + 1 + 1) gr) (fun v _ => V.kids.length - (intOf v).toNat)
 case atStart => exact ⟨0, (w.heap.size + 1 + 1), Nat.zero_le _, rfl, by simpa using HW0.out, FrameW.refl _ _ _⟩
 case round =>
  obtain ⟨i, gr, hi, rfl, hw, hf⟩ := hrel
  have HWr := Lib.hid hw
  have HFr := Lib.hid hf
  have hrow' := hw.row
  clear hw hf
  by_cases hlti : (i : Int) < V.kids.length
  ·have hi' : i < V.kids.length := by omega
   have hj' : i < T.kids.length := by have := Hkl.out; omega
   have hltj : (i : Int) < T.kids.length := by omega
   have hki : V.kids[i]? = some V.kids[i] := List.getElem?_eq_getElem hi'
   have hkt : T.kids[i]? = some T.kids[i] := List.getElem?_eq_getElem hj'
   have hiz : i < (T.kids.zip V.kids).length := by rw [List.length_zip]; omega
   have hstep := take_flat F (T.kids.zip V.kids) hiz
   rw [List.getElem_zip] at hstep
   have Hgkv := Lib.hid (Hgk.out i _ _ hkt hki)
   have Hkg := Lib.hid (HGK.out _ (List.getElem_mem hj'))
   obtain ⟨tb, tx, yA, yc, yA', yc', hB, htb, hty, g0, g1, g2⟩ := HTK.out i _ hkt
   generalize T.kids[i] = kt at hkt hty g0 g1 g2 hstep Hgkv Hkg
   subst hB
   obtain ⟨b, o, xA, xc, xA1, xc1, xA2, xc2, hA, hb, hx, hrg⟩ := kid_at HR.out hki
   generalize V.kids[i] = kv at hki hx hrg hstep Hgkv
   subst hA
   have hEx : Ext w wr := HFr.out.extw HE.out (by omega) (by omega)
   have HK := Lib.hid (VlAt.onx (Onx.of_ext hEx _) _ _ _ hx)
   have HTy := Lib.hid hty
   have HG0 := Lib.hid (And.intro g0 (And.intro g1 g2))
   have Hstep := Lib.hid hstep
   have HX := Lib.hid hEx
   have hrange : wr.rangeAt b (o + i * 11) (vcells kv.sc xA xc xA1 kv.keys.length xc1 xA2 kv.kids.length xc2) := fun j u hu => hEx.cellS (hrg j u hu)
   have Hrange := Lib.hid hrange
   clear hx hki hkt hEx hrg hrange hstep hty g0 g1 g2
   go_upto_region 58 with fail
   refine wp_region_lit ?_
   iterate 2 (refine wpList_plain rfl (fun K hK => ?_); go_simp; refine hK _ _ ?_; clear hK K; try simp only [aP, aN, aT, aZ, aS])
   refine wpList_load_mid rfl 39 _ rfl b (o + i * 11) (by rfl) (vcells kv.sc xA xc xA1 kv.keys.length xc1 xA2 kv.kids.length xc2) _ Hrange.out Tryz.underlying39 rfl hi39 ?_
   try simp only [aP, aN, aT, aZ, aS]
   iterate 2 (refine wpList_plain rfl (fun K hK => ?_); go_simp; refine hK _ _ ?_; clear hK K; try simp only [aP, aN, aT, aZ, aS])
   refine wpList_store_mid rfl 39 _ _ rfl wr.heap.size 0 (vcells kv.sc xA xc xA1 kv.keys.length xc1 xA2 kv.kids.length xc2).toArray (by rfl) (by rfl) ((Blk.new wr 39 #[.bool false, .int .i64 0, .float .f64 0, .string ⟨#[]⟩, .slice none 0 0, .int .i64 0, .int .i64 0, .int .i64 0, .int .i64 0, .slice none 0 0, .slice none 0 0]).there rfl) hi39 (by simp [vcells, Value.oneCell']) ?_
   generalize hW1 : World.setCells _ _ _ _ = W1
   have hB1 : Blk W1 wr.heap.size 39 (vcells kv.sc xA xc xA1 kv.keys.length xc1 xA2 kv.kids.length xc2).toArray := by
    rw [← hW1]
    exact Blk.setCells (Blk.new wr 39 #[.bool false, .int .i64 0, .float .f64 0, .string ⟨#[]⟩, .slice none 0 0, .int .i64 0, .int .i64 0, .int .i64 0, .int .i64 0, .slice none 0 0, .slice none 0 0]) rfl
   have hE1 : Ext wr W1 := by
    rw [← hW1]
    exact setCells_ext (Nat.le_refl _) _ _ _ ((Ext.refl wr).alloc _)
   have HE1 := Lib.hid hE1
   have hlt1 := hB1.lt
   have HB9 := Lib.hid hB1
   clear hW1 hB1 hE1
   go_upto_region 59 with fail
   obtain ⟨g0, g1, g2⟩ := HG0.out
   have hx1 : Ext w W1.drew := (HX.out.trans HE1.out).drew
   have hFd : FrameW W W1.drew (w.heap.size + 1 + 1 + 1) (w.heap.size + 1 + 1) gr := HFr.out.trans (FrameW.of_ext HE1.out.drew _ _)
   have hlen : (((T.kids.zip V.kids).take i).flatMap F).length ≤ 109951162777 := by
    have h1 := flat_len F (4 + bnd n) ((T.kids.zip V.kids).take i) (fun p hp => by
     obtain ⟨j, hj⟩ := List.mem_iff_getElem?.1 (List.mem_of_mem_take hp)
     rw [List.getElem?_zip_eq_some] at hj
     rw [HF.out]
     exact Hfl.out j p.1 p.2 hj.1 hj.2)
    have h2 : ((T.kids.zip V.kids).take i).length * (4 + bnd n) ≤ 10 * (4 + bnd n) := Nat.mul_le_mul_right _ (by simp; omega)
    omega
   have hcall := item_any n hn5 Hb.out m m2 W1.drew w.heap.size (w.heap.size + 1 + 1 + 1) gr _ _ kt _ kv hlen (HWr.out.ext HE1.out.drew) hx1.size (TyAt.onx (Onx.of_ext hx1 _) _ _ _ HTy.out) (VlAt.onx (Onx.of_ext HE1.out.drew _) _ _ _ HK.out) Hkg.out Hgkv.out
   have Hcall := Lib.hid hcall
   have hS : W1.drew.cell? ⟨w.heap.size, 1, none⟩ = some (.slice (some ⟨tb, tx, none⟩) T.kids.length bc) ∧ W1.drew.cell? ⟨tb, tx + i * 3, none⟩ = some (.int .i64 kt.kind) ∧ W1.drew.cell? ⟨tb, tx + i * 3 + 1, none⟩ = some (.slice yA kt.kids.length yc) ∧ W1.drew.cell? ⟨tb, tx + i * 3 + 2, none⟩ = some (.slice yA' kt.names.length yc') ∧ W1.drew.rangeAt wr.heap.size 0 (vcells kv.sc xA xc xA1 kv.keys.length xc1 xA2 kv.kids.length xc2) :=
    ⟨(HB1.out.frame hFd (by omega) (by omega)).cell 1, hx1.cellS g0, hx1.cellS g1, hx1.cellS g2, Blk.range (HB9.out.ext ((Ext.refl W1).drew))⟩
   have HS := Lib.hid hS
   have HFd := Lib.hid hFd
   clear hcall hS hx1 g0 g1 g2 hFd
   refine wp_region_K (fun w' => w'.cell? ⟨w.heap.size, 1, none⟩ = some (.slice (some ⟨tb, tx, none⟩) T.kids.length bc) ∧ w'.cell? ⟨tb, tx + i * 3, none⟩ = some (.int .i64 kt.kind) ∧ w'.cell? ⟨tb, tx + i * 3 + 1, none⟩ = some (.slice yA kt.kids.length yc) ∧ w'.cell? ⟨tb, tx + i * 3 + 2, none⟩ = some (.slice yA' kt.names.length yc') ∧ w'.rangeAt wr.heap.size 0 (vcells kv.sc xA xc xA1 kv.keys.length xc1 xA2 kv.kids.length xc2)) (ix [2, 5, 6]) 8 [false, false, false, false, false, false, false, false] (by kernel_rfl) rfl rfl ?_
   refine fV 0 (v := ?v59Lx0) rfl (by rfl) ?y59Lx0 ?_
   case y59Lx0 => intro w; go_simp; with_reducible rfl
   simp only [aP, aN, aT, aZ, aS]
   refine fV 1 (v := ?v59Lx1) rfl (by rfl) ?y59Lx1 ?_
   case y59Lx1 => intro w; go_simp; with_reducible rfl
   simp only [aP, aN, aT, aZ, aS]
   refine fV 3 (v := ?v59Lx3) rfl (by rfl) ?y59Lx3 ?_
   case y59Lx3 => intro w; go_simp; with_reducible rfl
   simp only [aP, aN, aT, aZ, aS]
   refine tV 2 (ix [4, 5, 7]) (v := ?v59Lx2) rfl HS.out (by rfl) ?y59Lx2 ?_
   case y59Lx2 => rintro w ⟨s1, s2, s3, s4, s5⟩; go_simp; with_reducible rfl
   simp only [aP, aN, aT, aZ, aS]
   refine fV 4 (v := ?v59Lx4) rfl (by rfl) ?y59Lx4 ?_
   case y59Lx4 => intro w; go_simp; with_reducible rfl
   simp only [aP, aN, aT, aZ, aS]
   refine tV 5 (ix [7]) (v := ?v59Lx5) rfl HS.out (by rfl) ?y59Lx5 ?_
   case y59Lx5 => rintro w ⟨s1, s2, s3, s4, s5⟩; go_simp; with_reducible rfl
   simp only [aP, aN, aT, aZ, aS]
   refine tG 6 (ix [7]) rfl HS.out (yieldsIf_load_mid (by rfl) 39 _ rfl wr.heap.size 0 (by rfl) (vcells kv.sc xA xc xA1 kv.keys.length xc1 xA2 kv.kids.length xc2) _ (fun w' h => h.2.2.2.2) Tryz.underlying39 rfl hi39) ?_
   simp only [aP, aN, aT, aZ, aS]
   refine wpAnyK_oneg 7 (by kernel_rfl) rfl (by rfl) (fun K' hK => ?_)
   go_simp
   refine Hcall.out.mono ?_
   rintro e w2 ⟨rfl, g2, hw2, hf2⟩
   refine hK.out _ _ (fun h => absurd h (by decide)) ?_
   clear hK K'
   simp only [aP, aN, aT, aZ, aS]
   refine wpAnyK_done (by kernel_rfl) ?_ _
   have hw3 : WrG w2 w.heap.size (w.heap.size + 1 + 1 + 1) g2 (((T.kids.zip V.kids).take (i + 1)).flatMap F) := by
    have hFk : itemB kv.sc.nul (enc n kt kv) = F (kt, kv) := by rw [HF.out]
    rw [hFk, ← Hstep.out] at hw2
    exact hw2
   have Hw3 := Lib.hid hw3
   have Hf3 := Lib.hid (HFd.out.trans hf2)
   clear hw2 hf2 hw3
   go_wp2_with fail
   go_roundw
   case rel => exact ⟨i + 1, g2, by omega, by go_num, Hw3.out, Hf3.out⟩
   case measure => simp [intOf]; omega
  ·obtain rfl : i = V.kids.length := by omega
   have hwl := HWr.out
   rw [List.take_of_length_le (by rw [List.length_zip]; omega), ← HL.out] at hwl
   have HFa := HFr
   obtain ⟨L, hL⟩ : ∃ L, enc (n + 1) T V = L := ⟨_, rfl⟩
   rw [hL] at hwl
   clear HL
   have HL := Lib.hid hL
   clear hL
   obtain ⟨cc, hcell, hown⟩ := wr_fin hwl HFa.out HE.out (by omega) (by omega)
   have Hown := Lib.hid hown
   clear hown hwl
   go_wp2_with fail
   go_ret
   exact ⟨_, rfl, by rw [HL.out]; exact Hown.out⟩
/-- Binary. -/
theorem binary_any : ∀ n, n ≤ 5 → BinP n
 |0, _ => fun _ _ _ _ _ _ _ _ _ hG _ => hG.elim
 |n + 1, hn => fun m m2 w tv T vs V hT hV hG hg => by
  have ih := binary_any n (by omega)
  by_cases hk : T.kind < 32
  ·have := bin_leaf n m m2 w tv T vs V hT hV hG hg hk
   rw [show enc (n + 1) T V = encS T.kind V.sc by rw [enc, if_pos hk]]
   exact this
  ·rcases kinds_hi hG.2 hk with h | h | h | h | h
   ·exact bin_list32 n (by omega) ih m m2 w tv T vs V hT hV hG hg h
   ·exact bin_map n (by omega) ih m m2 w tv T vs V hT hV hG hg h
   ·exact bin_list34 n (by omega) ih m m2 w tv T vs V hT hV hG hg h
   ·exact bin_tup48 n (by omega) ih m m2 w tv T vs V hT hV hG hg h
   ·exact bin_tup49 n (by omega) ih m m2 w tv T vs V hT hV hG hg h
end Go.Proofs.YtammjbmfiakbnaaGreatDoor
