/- A part of the proof that the card of laws.FnMarshal holds. No conditions. -/
import Derived.Test.YtammjbmfiakbnaaGreatDoorM09
import Derived.Test.YtammjbmfiakbnaaGreatDoorPrt
set_option linter.unusedSimpArgs false
set_option linter.unusedVariables false
namespace Go.Proofs.YtammjbmfiakbnaaGreatDoor
open Go.RowKit
/-- given's contract, so deep. -/
def GivP (n : Nat) : Prop := ∀ (m m2 : Nat) (w : World) (tv : Value) (T : Ty) (vs : List Value) (V : Vl), TyAt (fun _ => False) m w tv T → VlAt (fun _ => False) m2 w vs V → Good n T → (V.sc.nul = true ∨ GoodV n T V) → EofAt w →
 Calls Tryz.prog 26 #[tv, .agg vs.toArray] w (GivPost n T V w)
theorem info20 : (Tryz.prog.info? 20).map (fun i => (i.zero, i.size, i.bytes)) = some (some .nilIface, 1, 16) := by kernel_rfl
theorem info30s : (Tryz.prog.info? 30).map (·.size) = some 11 := by kernel_rfl
theorem fresh_rowE {w : World} {b b0 : Nat} {e : TypeId} (hb : w.heap[b]? = some (.cells #[] e (0, 0))) (h0 : b0 ≤ b) : w.ownsRow b0 e 1 (.slice (some ⟨b, 0, none⟩) 0 0) 0 [] :=
 ⟨rfl, .inr ⟨b, 0, #[], rfl, h0, hb, Nat.le_refl _, by unfold maxLen; omega, rfl, rfl⟩⟩
theorem blk_grow {wr W1 w2 w3 : World} {k : Nat} {t : TypeId} {cs : Array Value} {ob : Obj} {r : Option Nat} (h : Blk wr k t cs) (h1 : Ext wr W1) (h2 : Ext W1 w2) (hg : (w2.alloc ob).grownBy w3 r) (hr : ∀ b, r = some b → b ≠ k) : Blk w3 k t cs := by
 have h3 := ((h.ext h1).ext h2).alloc ob
 exact (hg.block k h3.lt (fun e => hr k e.symm rfl)).trans h3
/-- What several's loop keeps. -/
structure GLoop (n : Nat) (F : Nat → Ty) (ks : List Vl) (w wr : World) (i : Nat) (lv : Value) (gs : List Value) : Prop where
 le : i ≤ ks.length
 ext : Ext w wr
 own : wr.ownsRow (w.heap.size + 2) 20 1 lv i gs
 kids : ∀ (j : Nat) (k : Vl), j < i → ks[j]? = some k → ∃ g, gs[j]? = some g ∧ GivenAt (XI (Bel w.heap.size) lv) n wr g (F j) k
 nn : ∃ a m c, lv = .slice (some a) m c
theorem GivenAt.form {X : Nat → Prop} {n : Nat} {w : World} {G : Value} {T : Ty} {V : Vl} (h : GivenAt X n w G T V) : G = .nilIface ∨ ∃ t v, G = .iface t v := by
 cases n with
 |zero => exact h.elim
 |succ n =>
  rcases h with ⟨_, h⟩ | ⟨_, h⟩
  ·exact .inl h
  ·refine .inr ?_
   rcases h with ⟨_, h⟩ | ⟨_, A, c, gs, h, _⟩ | ⟨_, A, c, gs, h, _⟩ | ⟨_, A, c, gs, h, _⟩ | ⟨_, b, gs, h, _⟩
   ·rcases h with ⟨_, h⟩ | ⟨_, v, h, _⟩ | ⟨_, v, h, _⟩ | ⟨_, h⟩ | ⟨_, h⟩ | ⟨_, h⟩ | ⟨_, h⟩ | ⟨_, h⟩ | ⟨_, h⟩ | ⟨_, h⟩ | ⟨_, h⟩ | ⟨_, g, z, h, _⟩ | ⟨_, g, z, h, _⟩ | ⟨_, h⟩ | ⟨_, h⟩ <;> exact ⟨_, _, h⟩
   all_goals exact ⟨_, _, h⟩
theorem gloop_step {n : Nat} {F : Nat → Ty} {ks : List Vl} {w wr W1 w2 w3 : World} {i gg cap : Nat} {lv g : Value} {gs : List Value} {ob : Obj} {k : Vl}
  (L : GLoop n F ks w wr i lv gs) (hi : ks[i]? = some k) (hE1 : Ext wr W1) (hE2 : Ext W1 w2) (hG : GivenAt (Bel W1.heap.size) n w2 g (F i) k)
  (hown : w3.ownsRow (w.heap.size + 2) 20 1 (.slice (some ⟨gg, 0, none⟩) (i + 1) cap) (i + 1) (gs ++ [g])) (hgrow : (w2.alloc ob).grownBy w3 lv.ownBlock) (hat : lv.ownBlock = some gg ∨ gg = w2.heap.size + 1) :
  GLoop n F ks w w3 (i + 1) (.slice (some ⟨gg, 0, none⟩) (i + 1) cap) (gs ++ [g]) := by
 have hlt := (List.getElem?_eq_some_iff.1 hi).1
 have hlen : gs.length = i := by have := L.own.1; omega
 have hI : GivenAt (XI (Bel w.heap.size) lv) n w2 g (F i) k := (GivenAt.rel n g (F i) k).weak _ _ _ (fun b hb => by
  rcases hb with hb | hb
  ·exact .inl (show b < W1.heap.size by have := L.ext.size; have := hE1.size; have : b < w.heap.size := hb; omega)
  ·exact .inl (show b < W1.heap.size by have := (own_block L.own hb).2; have := hE1.size; omega)) hG
 refine ⟨by omega, ?_, hown, fun j t hj ht => ?_, ⟨_, _, _, rfl⟩⟩
 ·exact (((L.ext.trans hE1).trans hE2).alloc ob).grown hgrow (fun k hk => by have := (own_block L.own hk).1; omega)
 ·by_cases hji : j = i
  ·subst hji
   rw [hi] at ht
   injection ht with ht
   subst ht
   exact ⟨g, by rw [List.getElem?_append_right (by omega)]; simp [hlen], (GivenAt.rel n _ _ _).grow hI hgrow hat⟩
  ·obtain ⟨g', hx, hi'⟩ := L.kids j t (by omega) ht
   exact ⟨g', by rw [List.getElem?_append_left (by omega)]; exact hx, (GivenAt.rel n _ _ _).grow ((GivenAt.rel n _ _ _).ext hi' (hE1.trans hE2)) hgrow hat⟩
theorem GLoop.last {n : Nat} {F : Nat → Ty} {ks : List Vl} {w wr w' : World} {lv : Value} {gs : List Value} (L : GLoop n F ks w wr ks.length lv gs) (he : Ext wr w') :
  ∃ A c, lv = .slice (some A) ks.length c ∧ ks.length ≤ c ∧ c ≤ maxLen ∧ gs.length = ks.length ∧ SegR (Bel w.heap.size) w' (some A) gs ∧ ∀ (j : Nat) (k : Vl), ks[j]? = some k → ∃ g, gs[j]? = some g ∧ GivenAt (Bel w.heap.size) n w' g (F j) k := by
 obtain ⟨A, c, rfl, hc⟩ := ownB_slice L.own
 obtain ⟨a, _, _, ha⟩ := L.nn
 injection ha with ha _ _
 subst ha
 refine ⟨a, c, rfl, hc, own_cap L.own, by have := L.own.1; omega, (own_segR (ownsRow_ext L.own he)).weak (fun b hb => .inl (show b < w.heap.size + 2 by have : b < w.heap.size := hb; omega)), fun j k hk => ?_⟩
 obtain ⟨g, h1, h2⟩ := L.kids j k (List.getElem?_eq_some_iff.1 hk).1 hk
 exact ⟨g, h1, (GivenAt.rel n _ _ _).ext ((GivenAt.rel n _ _ _).weak _ _ _ (fun b hb => .inl (.inl hb)) h2) he⟩
set_option maxRecDepth 100000 in
set_option maxHeartbeats 8000000 in
theorem sev_list32 (n : Nat) (hp : GivP n) (m m2 : Nat) (w : World) (tv : Value) (T : Ty) (vs : List Value) (V : Vl) (hT : TyAt (fun _ => False) m w tv T) (hV : VlAt (fun _ => False) m2 w vs V) (hG : Good (n + 1) T) (hn : V.sc.nul = false) (hg : GoodV (n + 1) T V) (hEo : EofAt w) (h : T.kind = 32) :
  Calls Tryz.prog 51 #[tv, .agg vs.toArray] w (GivPost (n + 1) T V w) := by
 obtain ⟨B, bc, B', bc', rfl⟩ := hT.form
 cases m2 with
 |zero => exact hV.elim
 |succ m2 =>
 cases m with
 |zero => exact hT.elim
 |succ m =>
 have hl1 : T.kids.length = 1 := by
  have := hG.2
  unfold Shape at this
  omega
 have hkt : T.kids[0]? = some T.kids[0] := List.getElem?_eq_getElem (by omega)
 have hkg : Good n T.kids[0] := hG.1 _ (List.getElem_mem _)
 generalize T.kids[0] = kt at hkt hkg
 have HT := Lib.hid (tkid_at hT hkt)
 have hgk : ∀ k ∈ V.kids, GoodV n kt k := by
  obtain ⟨-, h20, hg⟩ := hg
  rcases hg with ⟨h', _⟩ | ⟨_, _, t, ht, hall⟩ | ⟨h', _⟩ | ⟨h', _⟩
  ·omega
  ·rw [hkt] at ht
   injection ht with ht
   subst ht
   exact hall
  ·omega
  ·omega
 have h20 : V.kids.length ≤ 20 := hg.2.1
 have Hgk := Lib.hid hgk
 have Hkt := Lib.hid hkt
 have Hkg := Lib.hid hkg
 have hbc : 0 < T.kids.length := by omega
 have h32 : T.kind = 32 ∨ T.kind = 34 := by omega
 have hbc0 : ¬ T.kids.length = 0 := by omega
 have hbcn : ¬ T.kids = [] := by intro e; rw [e] at hbc; simp at hbc
 have hbcI : ¬ (T.kids.length : Int) ≤ 0 := by omega
 have H32 := Lib.hid h32
 obtain ⟨F, hF⟩ : ∃ F : Nat → Ty, F = fun _ => kt := ⟨_, rfl⟩
 have HF := Lib.hid hF
 clear hgk hkt hkg hl1 h32 hF
 obtain ⟨A, c, A1, c1, A2, c2, rfl, q1, q2, q3, q4, q5, q6, hs, hd, hrow1, hrow⟩ := hV
 have HR := Lib.hid hrow
 have HR1 := Lib.hid hrow1
 have Hp := Lib.hid hp
 have HEo := Lib.hid hEo
 have HN := Lib.hid hn
 obtain ⟨i0, hi0, hz0, hz1, hz2⟩ := info_parts info20
 clear hT hs hG hd hg hrow hrow1 hp hEo hn
 simp only [vcells]
 rw [h]
 have Hkind := Lib.hid h
 clear h
 unfold maxLen at q2 q4 q6
 have hmm : ∀ W : World, (Instr.makeMap 152 none).run Tryz.prog W = .ok (.map (some W.heap.size)) (W.alloc (.map #[] 0)) := fun _ => rfl
 go_enter Tryz.func51, Tryz.ntmps51
 go_wp2_with fail
 clear hmm
 generalize hW : World.alloc (World.alloc (World.alloc (World.alloc w _) _) _) _ = W
 have h0 : Blk W w.heap.size 25 #[.int .i64 32, .slice B T.kids.length bc, .slice B' T.names.length bc'] ∧ Blk W (w.heap.size + 1) 30 #[.bool V.sc.nul, .int .i64 V.sc.n, .float .f64 V.sc.f, .string V.sc.text, .slice A V.sc.data.length c, .int .i64 V.sc.scale, .int .i64 V.sc.months, .int .i64 V.sc.days, .int .i64 V.sc.nanos, .slice A1 V.keys.length c1, .slice A2 V.kids.length c2] ∧ W.heap[w.heap.size + 1 + 1]? = some (.cells #[] 20 (0, 0)) ∧ Ext w W := by
  rw [← hW]
  exact ⟨(((Blk.new w 25 _).alloc _).alloc _).alloc _, ((Blk.new' _ _ 30 _ (by simp)).alloc _).alloc _, (Blk.new' _ _ 20 _ (by simp)).alloc _, ((((Ext.refl w).alloc _).alloc _).alloc _).alloc _⟩
 clear hW
 obtain ⟨hb1, hb2, hl0, hE⟩ := h0
 have HE := Lib.hid hE
 have HB1 := Lib.hid hb1
 have HB2 := Lib.hid hb2
 have HL0 := Lib.hid hl0
 have hlt1 := hb1.lt
 have hlt2 := hb2.lt
 clear hb1 hb2 hl0 hE
 obtain ⟨b0, b1, b2⟩ := HB1.out.c3
 obtain ⟨d0, d1, d2, d3, d4, d5, d6, d7, d8, d9, d10⟩ := HB2.out.c11
 clear b0 b1 b2 d0 d1 d2 d3 d4 d5 d6 d7 d8 d9 d10
 have hi30 := info30s
 go_loopw [13, 92] (fun lv v wr => ∃ (i : Nat) (gs : List Value), v = .int .i64 i ∧ GLoop n F V.kids w wr i lv gs ∧ Blk wr w.heap.size 25 #[.int .i64 32, .slice B T.kids.length bc, .slice B' T.names.length bc'] ∧ Blk wr (w.heap.size + 1) 30 #[.bool V.sc.nul, .int .i64 V.sc.n, .float .f64 V.sc.f, .string V.sc.text, .slice A V.sc.data.length c, .int .i64 V.sc.scale, .int .i64 V.sc.months, .int .i64 V.sc.days, .int .i64 V.sc.nanos, .slice A1 V.keys.length c1, .slice A2 V.kids.length c2] ∧ w.heap.size + 2 ≤ wr.heap.size) (fun _ v _ => V.kids.length - (intOf v).toNat)
 case atStart => exact ⟨0, [], rfl, ⟨Nat.zero_le _, HE.out, fresh_rowE HL0.out (by omega), fun j k hj => by omega, ⟨_, _, _, rfl⟩⟩, HB1.out, HB2.out, by omega⟩
 case round =>
  obtain ⟨i, gs, rfl, hL, hB1r, hB2r, hszr⟩ := hrel
  obtain ⟨lA, lc, rfl, hlc⟩ := ownB_slice hL.own
  have hi := hL.le
  have HLp := Lib.hid hL
  have HB1r := Lib.hid hB1r
  have HB2r := Lib.hid hB2r
  clear hL hB1r hB2r
  by_cases hlti : (i : Int) < V.kids.length
  ·have hi' : i < V.kids.length := by omega
   have hki : V.kids[i]? = some V.kids[i] := List.getElem?_eq_getElem hi'
   have Hgkv := Lib.hid (Hgk.out V.kids[i] (List.getElem_mem hi'))
   obtain ⟨b, o, xA, xc, xA1, xc1, xA2, xc2, hA, hb, hx, hrg⟩ := kid_at HR.out hki
   generalize V.kids[i] = kv at hki hx hrg Hgkv
   subst hA
   have hEx : Ext w wr := HLp.out.ext
   have HK := Lib.hid (VlAt.onx (Onx.of_ext hEx _) _ _ _ hx)
   have HX := Lib.hid hEx
   have hrange : wr.rangeAt b (o + i * 11) (vcells kv.sc xA xc xA1 kv.keys.length xc1 xA2 kv.kids.length xc2) := fun j u hu => hEx.cellS (hrg j u hu)
   have Hrange := Lib.hid hrange
   have Hki := Lib.hid hki
   clear hx hki hEx hrg hrange
   go_upto_region 19 with fail
   refine wp_region_lit ?_
   iterate 2 (refine wpList_plain rfl (fun K hK => ?_); go_simp; refine hK _ _ ?_; clear hK K; try simp only [aP, aN, aT, aZ, aS])
   refine wpList_load_mid rfl 30 _ rfl b (o + i * 11) (by rfl) (vcells kv.sc xA xc xA1 kv.keys.length xc1 xA2 kv.kids.length xc2) _ Hrange.out Tryz.underlying30 rfl hi30 ?_
   try simp only [aP, aN, aT, aZ, aS]
   iterate 2 (refine wpList_plain rfl (fun K hK => ?_); go_simp; refine hK _ _ ?_; clear hK K; try simp only [aP, aN, aT, aZ, aS])
   refine wpList_store_mid rfl 30 _ _ rfl wr.heap.size 0 (vcells kv.sc xA xc xA1 kv.keys.length xc1 xA2 kv.kids.length xc2).toArray (by rfl) (by rfl) ((Blk.new wr 30 #[.bool false, .int .i64 0, .float .f64 0, .string ⟨#[]⟩, .slice none 0 0, .int .i64 0, .int .i64 0, .int .i64 0, .int .i64 0, .slice none 0 0, .slice none 0 0]).there rfl) hi30 (by simp [vcells, Value.oneCell']) ?_
   generalize hW1 : World.setCells _ _ _ _ = W1
   have hB1 : Blk W1 wr.heap.size 30 (vcells kv.sc xA xc xA1 kv.keys.length xc1 xA2 kv.kids.length xc2).toArray := by
    rw [← hW1]
    exact Blk.setCells (Blk.new wr 30 #[.bool false, .int .i64 0, .float .f64 0, .string ⟨#[]⟩, .slice none 0 0, .int .i64 0, .int .i64 0, .int .i64 0, .int .i64 0, .slice none 0 0, .slice none 0 0]) rfl
   have hE1 : Ext wr W1 := by
    rw [← hW1]
    exact setCells_ext (Nat.le_refl _) _ _ _ ((Ext.refl wr).alloc _)
   have HE1 := Lib.hid hE1
   have hltK := hB1.lt
   have HB9 := Lib.hid hB1
   obtain ⟨b0, b1, b2⟩ := (HB1r.out.ext hE1).c3
   clear hW1 hB1 hE1
   go_upto_region 25 with fail
   obtain ⟨tb, tx, yA, yc, yA', yc', hB, htb, hty, g0, g1, g2⟩ := HT.out
   rw [Nat.zero_mul, Nat.add_zero] at g0 g1 g2
   subst hB
   have hx1 : Ext w W1.drew := (HX.out.trans HE1.out).drew
   have hcall := Hp.out m m2 W1.drew _ kt _ kv (TyAt.onx (Onx.of_ext hx1 _) _ _ _ hty) (VlAt.onx (Onx.of_ext HE1.out.drew _) _ _ _ HK.out) Hkg.out (.inr Hgkv.out) (HEo.out.ext hx1)
   have Hcall := Lib.hid hcall
   have hS : W1.drew.cell? ⟨w.heap.size, 1, none⟩ = some (.slice (some ⟨tb, tx, none⟩) T.kids.length bc) ∧ W1.drew.cell? ⟨tb, tx, none⟩ = some (.int .i64 kt.kind) ∧ W1.drew.cell? ⟨tb, tx + 1, none⟩ = some (.slice yA kt.kids.length yc) ∧ W1.drew.cell? ⟨tb, tx + 2, none⟩ = some (.slice yA' kt.names.length yc') ∧ W1.drew.rangeAt wr.heap.size 0 (vcells kv.sc xA xc xA1 kv.keys.length xc1 xA2 kv.kids.length xc2) :=
    ⟨(HB1r.out.ext HE1.out.drew).cell 1, hx1.cellS g0, hx1.cellS g1, hx1.cellS g2, Blk.range (HB9.out.ext ((Ext.refl W1).drew))⟩
   have HS := Lib.hid hS
   clear hcall hS hx1 hty g0 g1 g2 b0 b1 b2
   refine wp_region_K (fun w' => w'.cell? ⟨w.heap.size, 1, none⟩ = some (.slice (some ⟨tb, tx, none⟩) T.kids.length bc) ∧ w'.cell? ⟨tb, tx, none⟩ = some (.int .i64 kt.kind) ∧ w'.cell? ⟨tb, tx + 1, none⟩ = some (.slice yA kt.kids.length yc) ∧ w'.cell? ⟨tb, tx + 2, none⟩ = some (.slice yA' kt.names.length yc') ∧ w'.rangeAt wr.heap.size 0 (vcells kv.sc xA xc xA1 kv.keys.length xc1 xA2 kv.kids.length xc2)) (ix [1, 4, 5]) 12 [false, false, false, false, false, false, false, false, false, false, false, false] (by kernel_rfl) rfl rfl ?_
   refine fV 0 (v := ?v25Lx0) rfl (by rfl) ?y25Lx0 ?_
   case y25Lx0 => intro w; go_simp; with_reducible rfl
   simp only [aP, aN, aT, aZ, aS]
   refine fV 2 (v := ?v25Lx2) rfl (by rfl) ?y25Lx2 ?_
   case y25Lx2 => intro w; go_simp; with_reducible rfl
   simp only [aP, aN, aT, aZ, aS]
   refine tV 1 (ix [3, 4, 6, 7, 8, 9, 10, 11]) (v := ?v25Lx1) rfl HS.out (by rfl) ?y25Lx1 ?_
   case y25Lx1 => rintro w ⟨s1, s2, s3, s4, s5⟩; go_simp; with_reducible rfl
   simp only [aP, aN, aT, aZ, aS]
   refine fV 3 (v := ?v25Lx3) rfl (by rfl) ?y25Lx3 ?_
   case y25Lx3 => intro w; go_simp; with_reducible rfl
   simp only [aP, aN, aT, aZ, aS]
   refine tV 4 (rg 6 11) (v := ?v25Lx4) rfl HS.out (by rfl) ?y25Lx4 ?_
   case y25Lx4 => rintro w ⟨s1, s2, s3, s4, s5⟩; go_simp; with_reducible rfl
   simp only [aP, aN, aT, aZ, aS]
   refine tG 5 (rg 6 11) rfl HS.out (yieldsIf_load_mid (by rfl) 30 _ rfl wr.heap.size 0 (by rfl) (vcells kv.sc xA xc xA1 kv.keys.length xc1 xA2 kv.kids.length xc2) _ (fun w' h => h.2.2.2.2) Tryz.underlying30 rfl hi30) ?_
   simp only [aP, aN, aT, aZ, aS]
   refine wpAnyK_oneg 6 (by kernel_rfl) rfl (by rfl) (fun K' hK => ?_)
   go_simp
   refine Hcall.out.mono ?_
   rintro e w2 ⟨G, rfl, hG, hE2⟩
   refine hK.out _ _ (fun h => absurd h (by decide)) ?_
   clear hK K'
   simp only [aP, aN, aT, aZ, aS]
   refine fV 7 (v := ?v25Lx7) rfl (by rfl) ?y25Lx7 ?_
   case y25Lx7 => intro w; go_simp; with_reducible rfl
   simp only [aP, aN, aT, aZ, aS]
   refine fV 8 (v := ?v25Lx8) rfl (by rfl) ?y25Lx8 ?_
   case y25Lx8 => intro w; go_simp; with_reducible rfl
   simp only [aP, aN, aT, aZ, aS]
   refine fV 9 (v := ?v25Lx9) rfl (by rfl) ?y25Lx9 ?_
   case y25Lx9 => intro w; go_simp; with_reducible rfl
   simp only [aP, aN, aT, aZ, aS]
   refine fV 10 (v := ?v25Lx10) rfl (by rfl) ?y25Lx10 ?_
   case y25Lx10 => intro w; go_simp; with_reducible rfl
   simp only [aP, aN, aT, aZ, aS]
   refine fV 11 (v := ?v25Lx11) rfl (by rfl) ?y25Lx11 ?_
   case y25Lx11 => intro w; go_simp; with_reducible rfl
   simp only [aP, aN, aT, aZ, aS]
   refine wpAnyK_done (by kernel_rfl) ?_ _
   have hE2' : Ext W1 w2 := (Ext.refl W1).drew.trans hE2
   have HE2 := Lib.hid hE2'
   have HG := Lib.hid hG
   have hsW : W1.heap.size ≤ w2.heap.size := hE2'.size
   obtain ⟨b0, b1, b2⟩ := ((HB1r.out.ext HE1.out).ext hE2').c3
   have hsw : w.heap.size ≤ w2.heap.size := (HX.out.trans (HE1.out.trans hE2')).size
   clear hE2 hE2' hG
   rcases HG.out.form with hGf | ⟨gt, gv, hGf⟩
   ·subst hGf
    go_wp2_with (at_builtin; refine wpList_append_lies _ rfl _ _ _ rfl (w.heap.size + 2) 20 i0 _ 1 16 Tryz.underlying151 hi0 hz0 hz1 hz2 rfl (by omega) (.slice lA i lc) i gs rfl ((ownsRow_ext HLp.out.own (HE1.out.trans HE2.out)).alloc _) ⟨w2.heap.size, 0, none⟩ 1 1 [.nilIface] rfl rfl (World.news_of_block (heap_alloc_new w2 _)) (by simp [Value.oneCell']) (by omega) (by unfold maxLen; omega) (by omega) (by simp; omega) (w2.heap.size + 1) (by simp) ?_; intro gg cap1 w3 hown3 hgrow hat hltg; obtain ⟨b03, b13, b23⟩ := (blk_grow HB1r.out HE1.out HE2.out hgrow (fun k hk => by have := (own_block HLp.out.own hk).1; omega)).c3)
    have hB3 := blk_grow HB1r.out HE1.out HE2.out hgrow (fun k hk => by have := (own_block HLp.out.own hk).1; omega)
    have hB4 := blk_grow HB2r.out HE1.out HE2.out hgrow (fun k hk => by have := (own_block HLp.out.own hk).1; omega)
    have HB3 := Lib.hid hB3
    have HB4 := Lib.hid hB4
    have hsz3 : w2.heap.size + 1 ≤ w3.heap.size := by have := hgrow.size; simpa using this
    have hstep := gloop_step HLp.out Hki.out HE1.out HE2.out (by rw [HF.out]; exact HG.out) hown3 hgrow hat
    have Hstep := Lib.hid hstep
    clear hstep hown3 hgrow hat hB3 hB4
    go_wp2_with fail
    go_roundw
    case rel => exact ⟨i + 1, _, by go_num, Hstep.out, HB3.out, HB4.out, by omega⟩
    case measure => simp [intOf]; omega
   ·subst hGf
    go_wp2_with (at_builtin; refine wpList_append_lies _ rfl _ _ _ rfl (w.heap.size + 2) 20 i0 _ 1 16 Tryz.underlying151 hi0 hz0 hz1 hz2 rfl (by omega) (.slice lA i lc) i gs rfl ((ownsRow_ext HLp.out.own (HE1.out.trans HE2.out)).alloc _) ⟨w2.heap.size, 0, none⟩ 1 1 [.iface gt gv] rfl rfl (World.news_of_block (heap_alloc_new w2 _)) (by simp [Value.oneCell']) (by omega) (by unfold maxLen; omega) (by omega) (by simp; omega) (w2.heap.size + 1) (by simp) ?_; intro gg cap1 w3 hown3 hgrow hat hltg; obtain ⟨b03, b13, b23⟩ := (blk_grow HB1r.out HE1.out HE2.out hgrow (fun k hk => by have := (own_block HLp.out.own hk).1; omega)).c3)
    have hB3 := blk_grow HB1r.out HE1.out HE2.out hgrow (fun k hk => by have := (own_block HLp.out.own hk).1; omega)
    have hB4 := blk_grow HB2r.out HE1.out HE2.out hgrow (fun k hk => by have := (own_block HLp.out.own hk).1; omega)
    have HB3 := Lib.hid hB3
    have HB4 := Lib.hid hB4
    have hsz3 : w2.heap.size + 1 ≤ w3.heap.size := by have := hgrow.size; simpa using this
    have hstep := gloop_step HLp.out Hki.out HE1.out HE2.out (by rw [HF.out]; exact HG.out) hown3 hgrow hat
    have Hstep := Lib.hid hstep
    clear hstep hown3 hgrow hat hB3 hB4
    go_wp2_with fail
    go_roundw
    case rel => exact ⟨i + 1, _, by go_num, Hstep.out, HB3.out, HB4.out, by omega⟩
    case measure => simp [intOf]; omega
  ·obtain rfl : i = V.kids.length := by omega
   obtain ⟨b0, b1, b2⟩ := HB1r.out.c3
   have hd9 := HB2r.out.cell 10
   have hd10 : wr.cell? ⟨w.heap.size + 1, 10, none⟩ = some (.slice A2 V.kids.length c2) := hd9
   clear hd9
   go_wp2_with fail
   go_quiet (fail)
   go_wp2_with fail
   go_ret2
   obtain ⟨A', c', hlv, e1, e2, e3, e4, e5⟩ := HLp.out.last ((Ext.refl wr).drewN nq)
   injection hlv with a1 a2 a3
   subst a1
   subst a3
   have hex : Ext w (wr.drewN nq) := HLp.out.ext.drewN nq
   refine ⟨_, rfl, .inr ⟨HN.out, .inr (.inl ⟨H32.out, _, _, gs, rfl, e1, e2, e3, e4, fun j k hk => ?_⟩)⟩, hex⟩
   obtain ⟨g, f1, f2⟩ := e5 j k hk
   rw [HF.out] at f2
   rw [getD_of Hkt.out]
   exact ⟨g, f1, f2⟩
set_option maxRecDepth 100000 in
set_option maxHeartbeats 8000000 in
theorem sev_list34 (n : Nat) (hp : GivP n) (m m2 : Nat) (w : World) (tv : Value) (T : Ty) (vs : List Value) (V : Vl) (hT : TyAt (fun _ => False) m w tv T) (hV : VlAt (fun _ => False) m2 w vs V) (hG : Good (n + 1) T) (hn : V.sc.nul = false) (hg : GoodV (n + 1) T V) (hEo : EofAt w) (h : T.kind = 34) :
  Calls Tryz.prog 51 #[tv, .agg vs.toArray] w (GivPost (n + 1) T V w) := by
 obtain ⟨B, bc, B', bc', rfl⟩ := hT.form
 cases m2 with
 |zero => exact hV.elim
 |succ m2 =>
 cases m with
 |zero => exact hT.elim
 |succ m =>
 have hl1 : T.kids.length = 1 := by
  have := hG.2
  unfold Shape at this
  omega
 have hkt : T.kids[0]? = some T.kids[0] := List.getElem?_eq_getElem (by omega)
 have hkg : Good n T.kids[0] := hG.1 _ (List.getElem_mem _)
 generalize T.kids[0] = kt at hkt hkg
 have HT := Lib.hid (tkid_at hT hkt)
 have hgk : ∀ k ∈ V.kids, GoodV n kt k := by
  obtain ⟨-, h20, hg⟩ := hg
  rcases hg with ⟨h', _⟩ | ⟨_, _, t, ht, hall⟩ | ⟨h', _⟩ | ⟨h', _⟩
  ·omega
  ·rw [hkt] at ht
   injection ht with ht
   subst ht
   exact hall
  ·omega
  ·omega
 have h20 : V.kids.length ≤ 20 := hg.2.1
 have Hgk := Lib.hid hgk
 have Hkt := Lib.hid hkt
 have Hkg := Lib.hid hkg
 have hbc : 0 < T.kids.length := by omega
 have h32 : T.kind = 32 ∨ T.kind = 34 := by omega
 have hbc0 : ¬ T.kids.length = 0 := by omega
 have hbcn : ¬ T.kids = [] := by intro e; rw [e] at hbc; simp at hbc
 have hbcI : ¬ (T.kids.length : Int) ≤ 0 := by omega
 have H32 := Lib.hid h32
 obtain ⟨F, hF⟩ : ∃ F : Nat → Ty, F = fun _ => kt := ⟨_, rfl⟩
 have HF := Lib.hid hF
 clear hgk hkt hkg hl1 h32 hF
 obtain ⟨A, c, A1, c1, A2, c2, rfl, q1, q2, q3, q4, q5, q6, hs, hd, hrow1, hrow⟩ := hV
 have HR := Lib.hid hrow
 have HR1 := Lib.hid hrow1
 have Hp := Lib.hid hp
 have HEo := Lib.hid hEo
 have HN := Lib.hid hn
 obtain ⟨i0, hi0, hz0, hz1, hz2⟩ := info_parts info20
 clear hT hs hG hd hg hrow hrow1 hp hEo hn
 simp only [vcells]
 rw [h]
 have Hkind := Lib.hid h
 clear h
 unfold maxLen at q2 q4 q6
 have hmm : ∀ W : World, (Instr.makeMap 152 none).run Tryz.prog W = .ok (.map (some W.heap.size)) (W.alloc (.map #[] 0)) := fun _ => rfl
 go_enter Tryz.func51, Tryz.ntmps51
 go_wp2_with fail
 clear hmm
 generalize hW : World.alloc (World.alloc (World.alloc (World.alloc w _) _) _) _ = W
 have h0 : Blk W w.heap.size 25 #[.int .i64 34, .slice B T.kids.length bc, .slice B' T.names.length bc'] ∧ Blk W (w.heap.size + 1) 30 #[.bool V.sc.nul, .int .i64 V.sc.n, .float .f64 V.sc.f, .string V.sc.text, .slice A V.sc.data.length c, .int .i64 V.sc.scale, .int .i64 V.sc.months, .int .i64 V.sc.days, .int .i64 V.sc.nanos, .slice A1 V.keys.length c1, .slice A2 V.kids.length c2] ∧ W.heap[w.heap.size + 1 + 1]? = some (.cells #[] 20 (0, 0)) ∧ Ext w W := by
  rw [← hW]
  exact ⟨(((Blk.new w 25 _).alloc _).alloc _).alloc _, ((Blk.new' _ _ 30 _ (by simp)).alloc _).alloc _, (Blk.new' _ _ 20 _ (by simp)).alloc _, ((((Ext.refl w).alloc _).alloc _).alloc _).alloc _⟩
 clear hW
 obtain ⟨hb1, hb2, hl0, hE⟩ := h0
 have HE := Lib.hid hE
 have HB1 := Lib.hid hb1
 have HB2 := Lib.hid hb2
 have HL0 := Lib.hid hl0
 have hlt1 := hb1.lt
 have hlt2 := hb2.lt
 clear hb1 hb2 hl0 hE
 obtain ⟨b0, b1, b2⟩ := HB1.out.c3
 obtain ⟨d0, d1, d2, d3, d4, d5, d6, d7, d8, d9, d10⟩ := HB2.out.c11
 clear b0 b1 b2 d0 d1 d2 d3 d4 d5 d6 d7 d8 d9 d10
 have hi30 := info30s
 go_loopw [13, 92] (fun lv v wr => ∃ (i : Nat) (gs : List Value), v = .int .i64 i ∧ GLoop n F V.kids w wr i lv gs ∧ Blk wr w.heap.size 25 #[.int .i64 34, .slice B T.kids.length bc, .slice B' T.names.length bc'] ∧ Blk wr (w.heap.size + 1) 30 #[.bool V.sc.nul, .int .i64 V.sc.n, .float .f64 V.sc.f, .string V.sc.text, .slice A V.sc.data.length c, .int .i64 V.sc.scale, .int .i64 V.sc.months, .int .i64 V.sc.days, .int .i64 V.sc.nanos, .slice A1 V.keys.length c1, .slice A2 V.kids.length c2] ∧ w.heap.size + 2 ≤ wr.heap.size) (fun _ v _ => V.kids.length - (intOf v).toNat)
 case atStart => exact ⟨0, [], rfl, ⟨Nat.zero_le _, HE.out, fresh_rowE HL0.out (by omega), fun j k hj => by omega, ⟨_, _, _, rfl⟩⟩, HB1.out, HB2.out, by omega⟩
 case round =>
  obtain ⟨i, gs, rfl, hL, hB1r, hB2r, hszr⟩ := hrel
  obtain ⟨lA, lc, rfl, hlc⟩ := ownB_slice hL.own
  have hi := hL.le
  have HLp := Lib.hid hL
  have HB1r := Lib.hid hB1r
  have HB2r := Lib.hid hB2r
  clear hL hB1r hB2r
  by_cases hlti : (i : Int) < V.kids.length
  ·have hi' : i < V.kids.length := by omega
   have hki : V.kids[i]? = some V.kids[i] := List.getElem?_eq_getElem hi'
   have Hgkv := Lib.hid (Hgk.out V.kids[i] (List.getElem_mem hi'))
   obtain ⟨b, o, xA, xc, xA1, xc1, xA2, xc2, hA, hb, hx, hrg⟩ := kid_at HR.out hki
   generalize V.kids[i] = kv at hki hx hrg Hgkv
   subst hA
   have hEx : Ext w wr := HLp.out.ext
   have HK := Lib.hid (VlAt.onx (Onx.of_ext hEx _) _ _ _ hx)
   have HX := Lib.hid hEx
   have hrange : wr.rangeAt b (o + i * 11) (vcells kv.sc xA xc xA1 kv.keys.length xc1 xA2 kv.kids.length xc2) := fun j u hu => hEx.cellS (hrg j u hu)
   have Hrange := Lib.hid hrange
   have Hki := Lib.hid hki
   clear hx hki hEx hrg hrange
   go_upto_region 19 with fail
   refine wp_region_lit ?_
   iterate 2 (refine wpList_plain rfl (fun K hK => ?_); go_simp; refine hK _ _ ?_; clear hK K; try simp only [aP, aN, aT, aZ, aS])
   refine wpList_load_mid rfl 30 _ rfl b (o + i * 11) (by rfl) (vcells kv.sc xA xc xA1 kv.keys.length xc1 xA2 kv.kids.length xc2) _ Hrange.out Tryz.underlying30 rfl hi30 ?_
   try simp only [aP, aN, aT, aZ, aS]
   iterate 2 (refine wpList_plain rfl (fun K hK => ?_); go_simp; refine hK _ _ ?_; clear hK K; try simp only [aP, aN, aT, aZ, aS])
   refine wpList_store_mid rfl 30 _ _ rfl wr.heap.size 0 (vcells kv.sc xA xc xA1 kv.keys.length xc1 xA2 kv.kids.length xc2).toArray (by rfl) (by rfl) ((Blk.new wr 30 #[.bool false, .int .i64 0, .float .f64 0, .string ⟨#[]⟩, .slice none 0 0, .int .i64 0, .int .i64 0, .int .i64 0, .int .i64 0, .slice none 0 0, .slice none 0 0]).there rfl) hi30 (by simp [vcells, Value.oneCell']) ?_
   generalize hW1 : World.setCells _ _ _ _ = W1
   have hB1 : Blk W1 wr.heap.size 30 (vcells kv.sc xA xc xA1 kv.keys.length xc1 xA2 kv.kids.length xc2).toArray := by
    rw [← hW1]
    exact Blk.setCells (Blk.new wr 30 #[.bool false, .int .i64 0, .float .f64 0, .string ⟨#[]⟩, .slice none 0 0, .int .i64 0, .int .i64 0, .int .i64 0, .int .i64 0, .slice none 0 0, .slice none 0 0]) rfl
   have hE1 : Ext wr W1 := by
    rw [← hW1]
    exact setCells_ext (Nat.le_refl _) _ _ _ ((Ext.refl wr).alloc _)
   have HE1 := Lib.hid hE1
   have hltK := hB1.lt
   have HB9 := Lib.hid hB1
   obtain ⟨b0, b1, b2⟩ := (HB1r.out.ext hE1).c3
   clear hW1 hB1 hE1
   go_upto_region 25 with fail
   obtain ⟨tb, tx, yA, yc, yA', yc', hB, htb, hty, g0, g1, g2⟩ := HT.out
   rw [Nat.zero_mul, Nat.add_zero] at g0 g1 g2
   subst hB
   have hx1 : Ext w W1.drew := (HX.out.trans HE1.out).drew
   have hcall := Hp.out m m2 W1.drew _ kt _ kv (TyAt.onx (Onx.of_ext hx1 _) _ _ _ hty) (VlAt.onx (Onx.of_ext HE1.out.drew _) _ _ _ HK.out) Hkg.out (.inr Hgkv.out) (HEo.out.ext hx1)
   have Hcall := Lib.hid hcall
   have hS : W1.drew.cell? ⟨w.heap.size, 1, none⟩ = some (.slice (some ⟨tb, tx, none⟩) T.kids.length bc) ∧ W1.drew.cell? ⟨tb, tx, none⟩ = some (.int .i64 kt.kind) ∧ W1.drew.cell? ⟨tb, tx + 1, none⟩ = some (.slice yA kt.kids.length yc) ∧ W1.drew.cell? ⟨tb, tx + 2, none⟩ = some (.slice yA' kt.names.length yc') ∧ W1.drew.rangeAt wr.heap.size 0 (vcells kv.sc xA xc xA1 kv.keys.length xc1 xA2 kv.kids.length xc2) :=
    ⟨(HB1r.out.ext HE1.out.drew).cell 1, hx1.cellS g0, hx1.cellS g1, hx1.cellS g2, Blk.range (HB9.out.ext ((Ext.refl W1).drew))⟩
   have HS := Lib.hid hS
   clear hcall hS hx1 hty g0 g1 g2 b0 b1 b2
   refine wp_region_K (fun w' => w'.cell? ⟨w.heap.size, 1, none⟩ = some (.slice (some ⟨tb, tx, none⟩) T.kids.length bc) ∧ w'.cell? ⟨tb, tx, none⟩ = some (.int .i64 kt.kind) ∧ w'.cell? ⟨tb, tx + 1, none⟩ = some (.slice yA kt.kids.length yc) ∧ w'.cell? ⟨tb, tx + 2, none⟩ = some (.slice yA' kt.names.length yc') ∧ w'.rangeAt wr.heap.size 0 (vcells kv.sc xA xc xA1 kv.keys.length xc1 xA2 kv.kids.length xc2)) (ix [1, 4, 5]) 12 [false, false, false, false, false, false, false, false, false, false, false, false] (by kernel_rfl) rfl rfl ?_
   refine fV 0 (v := ?v25Lx0) rfl (by rfl) ?y25Lx0 ?_
   case y25Lx0 => intro w; go_simp; with_reducible rfl
   simp only [aP, aN, aT, aZ, aS]
   refine fV 2 (v := ?v25Lx2) rfl (by rfl) ?y25Lx2 ?_
   case y25Lx2 => intro w; go_simp; with_reducible rfl
   simp only [aP, aN, aT, aZ, aS]
   refine tV 1 (ix [3, 4, 6, 7, 8, 9, 10, 11]) (v := ?v25Lx1) rfl HS.out (by rfl) ?y25Lx1 ?_
   case y25Lx1 => rintro w ⟨s1, s2, s3, s4, s5⟩; go_simp; with_reducible rfl
   simp only [aP, aN, aT, aZ, aS]
   refine fV 3 (v := ?v25Lx3) rfl (by rfl) ?y25Lx3 ?_
   case y25Lx3 => intro w; go_simp; with_reducible rfl
   simp only [aP, aN, aT, aZ, aS]
   refine tV 4 (rg 6 11) (v := ?v25Lx4) rfl HS.out (by rfl) ?y25Lx4 ?_
   case y25Lx4 => rintro w ⟨s1, s2, s3, s4, s5⟩; go_simp; with_reducible rfl
   simp only [aP, aN, aT, aZ, aS]
   refine tG 5 (rg 6 11) rfl HS.out (yieldsIf_load_mid (by rfl) 30 _ rfl wr.heap.size 0 (by rfl) (vcells kv.sc xA xc xA1 kv.keys.length xc1 xA2 kv.kids.length xc2) _ (fun w' h => h.2.2.2.2) Tryz.underlying30 rfl hi30) ?_
   simp only [aP, aN, aT, aZ, aS]
   refine wpAnyK_oneg 6 (by kernel_rfl) rfl (by rfl) (fun K' hK => ?_)
   go_simp
   refine Hcall.out.mono ?_
   rintro e w2 ⟨G, rfl, hG, hE2⟩
   refine hK.out _ _ (fun h => absurd h (by decide)) ?_
   clear hK K'
   simp only [aP, aN, aT, aZ, aS]
   refine fV 7 (v := ?v25Lx7) rfl (by rfl) ?y25Lx7 ?_
   case y25Lx7 => intro w; go_simp; with_reducible rfl
   simp only [aP, aN, aT, aZ, aS]
   refine fV 8 (v := ?v25Lx8) rfl (by rfl) ?y25Lx8 ?_
   case y25Lx8 => intro w; go_simp; with_reducible rfl
   simp only [aP, aN, aT, aZ, aS]
   refine fV 9 (v := ?v25Lx9) rfl (by rfl) ?y25Lx9 ?_
   case y25Lx9 => intro w; go_simp; with_reducible rfl
   simp only [aP, aN, aT, aZ, aS]
   refine fV 10 (v := ?v25Lx10) rfl (by rfl) ?y25Lx10 ?_
   case y25Lx10 => intro w; go_simp; with_reducible rfl
   simp only [aP, aN, aT, aZ, aS]
   refine fV 11 (v := ?v25Lx11) rfl (by rfl) ?y25Lx11 ?_
   case y25Lx11 => intro w; go_simp; with_reducible rfl
   simp only [aP, aN, aT, aZ, aS]
   refine wpAnyK_done (by kernel_rfl) ?_ _
   have hE2' : Ext W1 w2 := (Ext.refl W1).drew.trans hE2
   have HE2 := Lib.hid hE2'
   have HG := Lib.hid hG
   have hsW : W1.heap.size ≤ w2.heap.size := hE2'.size
   obtain ⟨b0, b1, b2⟩ := ((HB1r.out.ext HE1.out).ext hE2').c3
   have hsw : w.heap.size ≤ w2.heap.size := (HX.out.trans (HE1.out.trans hE2')).size
   clear hE2 hE2' hG
   rcases HG.out.form with hGf | ⟨gt, gv, hGf⟩
   ·subst hGf
    go_wp2_with (at_builtin; refine wpList_append_lies _ rfl _ _ _ rfl (w.heap.size + 2) 20 i0 _ 1 16 Tryz.underlying151 hi0 hz0 hz1 hz2 rfl (by omega) (.slice lA i lc) i gs rfl ((ownsRow_ext HLp.out.own (HE1.out.trans HE2.out)).alloc _) ⟨w2.heap.size, 0, none⟩ 1 1 [.nilIface] rfl rfl (World.news_of_block (heap_alloc_new w2 _)) (by simp [Value.oneCell']) (by omega) (by unfold maxLen; omega) (by omega) (by simp; omega) (w2.heap.size + 1) (by simp) ?_; intro gg cap1 w3 hown3 hgrow hat hltg; obtain ⟨b03, b13, b23⟩ := (blk_grow HB1r.out HE1.out HE2.out hgrow (fun k hk => by have := (own_block HLp.out.own hk).1; omega)).c3)
    have hB3 := blk_grow HB1r.out HE1.out HE2.out hgrow (fun k hk => by have := (own_block HLp.out.own hk).1; omega)
    have hB4 := blk_grow HB2r.out HE1.out HE2.out hgrow (fun k hk => by have := (own_block HLp.out.own hk).1; omega)
    have HB3 := Lib.hid hB3
    have HB4 := Lib.hid hB4
    have hsz3 : w2.heap.size + 1 ≤ w3.heap.size := by have := hgrow.size; simpa using this
    have hstep := gloop_step HLp.out Hki.out HE1.out HE2.out (by rw [HF.out]; exact HG.out) hown3 hgrow hat
    have Hstep := Lib.hid hstep
    clear hstep hown3 hgrow hat hB3 hB4
    go_wp2_with fail
    go_roundw
    case rel => exact ⟨i + 1, _, by go_num, Hstep.out, HB3.out, HB4.out, by omega⟩
    case measure => simp [intOf]; omega
   ·subst hGf
    go_wp2_with (at_builtin; refine wpList_append_lies _ rfl _ _ _ rfl (w.heap.size + 2) 20 i0 _ 1 16 Tryz.underlying151 hi0 hz0 hz1 hz2 rfl (by omega) (.slice lA i lc) i gs rfl ((ownsRow_ext HLp.out.own (HE1.out.trans HE2.out)).alloc _) ⟨w2.heap.size, 0, none⟩ 1 1 [.iface gt gv] rfl rfl (World.news_of_block (heap_alloc_new w2 _)) (by simp [Value.oneCell']) (by omega) (by unfold maxLen; omega) (by omega) (by simp; omega) (w2.heap.size + 1) (by simp) ?_; intro gg cap1 w3 hown3 hgrow hat hltg; obtain ⟨b03, b13, b23⟩ := (blk_grow HB1r.out HE1.out HE2.out hgrow (fun k hk => by have := (own_block HLp.out.own hk).1; omega)).c3)
    have hB3 := blk_grow HB1r.out HE1.out HE2.out hgrow (fun k hk => by have := (own_block HLp.out.own hk).1; omega)
    have hB4 := blk_grow HB2r.out HE1.out HE2.out hgrow (fun k hk => by have := (own_block HLp.out.own hk).1; omega)
    have HB3 := Lib.hid hB3
    have HB4 := Lib.hid hB4
    have hsz3 : w2.heap.size + 1 ≤ w3.heap.size := by have := hgrow.size; simpa using this
    have hstep := gloop_step HLp.out Hki.out HE1.out HE2.out (by rw [HF.out]; exact HG.out) hown3 hgrow hat
    have Hstep := Lib.hid hstep
    clear hstep hown3 hgrow hat hB3 hB4
    go_wp2_with fail
    go_roundw
    case rel => exact ⟨i + 1, _, by go_num, Hstep.out, HB3.out, HB4.out, by omega⟩
    case measure => simp [intOf]; omega
  ·obtain rfl : i = V.kids.length := by omega
   obtain ⟨b0, b1, b2⟩ := HB1r.out.c3
   have hd9 := HB2r.out.cell 10
   have hd10 : wr.cell? ⟨w.heap.size + 1, 10, none⟩ = some (.slice A2 V.kids.length c2) := hd9
   clear hd9
   go_wp2_with fail
   go_quiet (fail)
   go_wp2_with fail
   go_ret2
   obtain ⟨A', c', hlv, e1, e2, e3, e4, e5⟩ := HLp.out.last ((Ext.refl wr).drewN nq)
   injection hlv with a1 a2 a3
   subst a1
   subst a3
   have hex : Ext w (wr.drewN nq) := HLp.out.ext.drewN nq
   refine ⟨_, rfl, .inr ⟨HN.out, .inr (.inl ⟨H32.out, _, _, gs, rfl, e1, e2, e3, e4, fun j k hk => ?_⟩)⟩, hex⟩
   obtain ⟨g, f1, f2⟩ := e5 j k hk
   rw [HF.out] at f2
   rw [getD_of Hkt.out]
   exact ⟨g, f1, f2⟩
set_option maxRecDepth 100000 in
set_option maxHeartbeats 8000000 in
theorem sev_list49 (n : Nat) (hp : GivP n) (m m2 : Nat) (w : World) (tv : Value) (T : Ty) (vs : List Value) (V : Vl) (hT : TyAt (fun _ => False) m w tv T) (hV : VlAt (fun _ => False) m2 w vs V) (hG : Good (n + 1) T) (hn : V.sc.nul = false) (hg : GoodV (n + 1) T V) (hEo : EofAt w) (h : T.kind = 49) :
  Calls Tryz.prog 51 #[tv, .agg vs.toArray] w (GivPost (n + 1) T V w) := by
 obtain ⟨B, bc, B', bc', rfl⟩ := hT.form
 cases m2 with
 |zero => exact hV.elim
 |succ m2 =>
 cases m with
 |zero => exact hT.elim
 |succ m =>
 have hgk : V.kids.length = T.kids.length ∧ ∀ (i : Nat) (t : Ty) (k : Vl), T.kids[i]? = some t → V.kids[i]? = some k → k.sc.nul = true ∨ GoodV n t k := by
  obtain ⟨-, h20, hg⟩ := hg
  rcases hg with ⟨h', _⟩ | ⟨h', _⟩ | ⟨h', _⟩ | ⟨_, _, hl, hall⟩
  ·omega
  ·omega
  ·omega
  ·refine ⟨hl, fun i t k ht hk => ?_⟩
   rcases hall i t k ht hk with h' | ⟨_, h', _⟩
   ·exact .inr h'
   ·exact .inl h'
 obtain ⟨hlen, hgk⟩ := hgk
 have h20 : V.kids.length ≤ 20 := hg.2.1
 have Hgk := Lib.hid hgk
 have HTT := Lib.hid hT
 have hkg : ∀ k ∈ T.kids, Good n k := hG.1
 have Hkg' := Lib.hid hkg
 have h32 : T.kind = 49 := h
 have H32 := Lib.hid h32
 have Hlen := Lib.hid hlen
 obtain ⟨F, hF⟩ : ∃ F : Nat → Ty, F = fun j => T.kids.getD j Ty.bad := ⟨_, rfl⟩
 have HF := Lib.hid hF
 clear hgk hkg hlen h32 hF
 obtain ⟨A, c, A1, c1, A2, c2, rfl, q1, q2, q3, q4, q5, q6, hs, hd, hrow1, hrow⟩ := hV
 have HR := Lib.hid hrow
 have HR1 := Lib.hid hrow1
 have Hp := Lib.hid hp
 have HEo := Lib.hid hEo
 have HN := Lib.hid hn
 obtain ⟨i0, hi0, hz0, hz1, hz2⟩ := info_parts info20
 clear hT hs hG hd hg hrow hrow1 hp hEo hn
 simp only [vcells]
 rw [h]
 have Hkind := Lib.hid h
 clear h
 unfold maxLen at q2 q4 q6
 have hmm : ∀ W : World, (Instr.makeMap 152 none).run Tryz.prog W = .ok (.map (some W.heap.size)) (W.alloc (.map #[] 0)) := fun _ => rfl
 go_enter Tryz.func51, Tryz.ntmps51
 go_wp2_with fail
 clear hmm
 generalize hW : World.alloc (World.alloc (World.alloc (World.alloc w _) _) _) _ = W
 have h0 : Blk W w.heap.size 25 #[.int .i64 49, .slice B T.kids.length bc, .slice B' T.names.length bc'] ∧ Blk W (w.heap.size + 1) 30 #[.bool V.sc.nul, .int .i64 V.sc.n, .float .f64 V.sc.f, .string V.sc.text, .slice A V.sc.data.length c, .int .i64 V.sc.scale, .int .i64 V.sc.months, .int .i64 V.sc.days, .int .i64 V.sc.nanos, .slice A1 V.keys.length c1, .slice A2 V.kids.length c2] ∧ W.heap[w.heap.size + 1 + 1]? = some (.cells #[] 20 (0, 0)) ∧ Ext w W := by
  rw [← hW]
  exact ⟨(((Blk.new w 25 _).alloc _).alloc _).alloc _, ((Blk.new' _ _ 30 _ (by simp)).alloc _).alloc _, (Blk.new' _ _ 20 _ (by simp)).alloc _, ((((Ext.refl w).alloc _).alloc _).alloc _).alloc _⟩
 clear hW
 obtain ⟨hb1, hb2, hl0, hE⟩ := h0
 have HE := Lib.hid hE
 have HB1 := Lib.hid hb1
 have HB2 := Lib.hid hb2
 have HL0 := Lib.hid hl0
 have hlt1 := hb1.lt
 have hlt2 := hb2.lt
 clear hb1 hb2 hl0 hE
 obtain ⟨b0, b1, b2⟩ := HB1.out.c3
 obtain ⟨d0, d1, d2, d3, d4, d5, d6, d7, d8, d9, d10⟩ := HB2.out.c11
 clear b0 b1 b2 d0 d1 d2 d3 d4 d5 d6 d7 d8 d9 d10
 have hi30 := info30s
 go_loopw [13, 92] (fun lv v wr => ∃ (i : Nat) (gs : List Value), v = .int .i64 i ∧ GLoop n F V.kids w wr i lv gs ∧ Blk wr w.heap.size 25 #[.int .i64 49, .slice B T.kids.length bc, .slice B' T.names.length bc'] ∧ Blk wr (w.heap.size + 1) 30 #[.bool V.sc.nul, .int .i64 V.sc.n, .float .f64 V.sc.f, .string V.sc.text, .slice A V.sc.data.length c, .int .i64 V.sc.scale, .int .i64 V.sc.months, .int .i64 V.sc.days, .int .i64 V.sc.nanos, .slice A1 V.keys.length c1, .slice A2 V.kids.length c2] ∧ w.heap.size + 2 ≤ wr.heap.size) (fun _ v _ => V.kids.length - (intOf v).toNat)
 case atStart => exact ⟨0, [], rfl, ⟨Nat.zero_le _, HE.out, fresh_rowE HL0.out (by omega), fun j k hj => by omega, ⟨_, _, _, rfl⟩⟩, HB1.out, HB2.out, by omega⟩
 case round =>
  obtain ⟨i, gs, rfl, hL, hB1r, hB2r, hszr⟩ := hrel
  obtain ⟨lA, lc, rfl, hlc⟩ := ownB_slice hL.own
  have hi := hL.le
  have HLp := Lib.hid hL
  have HB1r := Lib.hid hB1r
  have HB2r := Lib.hid hB2r
  clear hL hB1r hB2r
  by_cases hlti : (i : Int) < V.kids.length
  ·have hi' : i < V.kids.length := by omega
   have hki : V.kids[i]? = some V.kids[i] := List.getElem?_eq_getElem hi'
   have hi'' : i < T.kids.length := by have := Hlen.out; omega
   have hkt : T.kids[i]? = some T.kids[i] := List.getElem?_eq_getElem hi''
   have Hkg := Lib.hid (Hkg'.out _ (List.getElem_mem hi''))
   have Hgkv := Lib.hid (Hgk.out i _ _ hkt hki)
   have hlt3 : (i : Int) < T.kids.length := by omega
   generalize T.kids[i] = kt at hkt Hkg Hgkv
   have HT := Lib.hid (tkid_at HTT.out hkt)
   have HFi : Hid (F i = kt) := Lib.hid (by rw [HF.out]; exact getD_of hkt)
   clear hkt
   obtain ⟨b, o, xA, xc, xA1, xc1, xA2, xc2, hA, hb, hx, hrg⟩ := kid_at HR.out hki
   generalize V.kids[i] = kv at hki hx hrg Hgkv
   subst hA
   have hEx : Ext w wr := HLp.out.ext
   have HK := Lib.hid (VlAt.onx (Onx.of_ext hEx _) _ _ _ hx)
   have HX := Lib.hid hEx
   have hrange : wr.rangeAt b (o + i * 11) (vcells kv.sc xA xc xA1 kv.keys.length xc1 xA2 kv.kids.length xc2) := fun j u hu => hEx.cellS (hrg j u hu)
   have Hrange := Lib.hid hrange
   have Hki := Lib.hid hki
   clear hx hki hEx hrg hrange
   go_upto_region 19 with fail
   refine wp_region_lit ?_
   iterate 2 (refine wpList_plain rfl (fun K hK => ?_); go_simp; refine hK _ _ ?_; clear hK K; try simp only [aP, aN, aT, aZ, aS])
   refine wpList_load_mid rfl 30 _ rfl b (o + i * 11) (by rfl) (vcells kv.sc xA xc xA1 kv.keys.length xc1 xA2 kv.kids.length xc2) _ Hrange.out Tryz.underlying30 rfl hi30 ?_
   try simp only [aP, aN, aT, aZ, aS]
   iterate 2 (refine wpList_plain rfl (fun K hK => ?_); go_simp; refine hK _ _ ?_; clear hK K; try simp only [aP, aN, aT, aZ, aS])
   refine wpList_store_mid rfl 30 _ _ rfl wr.heap.size 0 (vcells kv.sc xA xc xA1 kv.keys.length xc1 xA2 kv.kids.length xc2).toArray (by rfl) (by rfl) ((Blk.new wr 30 #[.bool false, .int .i64 0, .float .f64 0, .string ⟨#[]⟩, .slice none 0 0, .int .i64 0, .int .i64 0, .int .i64 0, .int .i64 0, .slice none 0 0, .slice none 0 0]).there rfl) hi30 (by simp [vcells, Value.oneCell']) ?_
   generalize hW1 : World.setCells _ _ _ _ = W1
   have hB1 : Blk W1 wr.heap.size 30 (vcells kv.sc xA xc xA1 kv.keys.length xc1 xA2 kv.kids.length xc2).toArray := by
    rw [← hW1]
    exact Blk.setCells (Blk.new wr 30 #[.bool false, .int .i64 0, .float .f64 0, .string ⟨#[]⟩, .slice none 0 0, .int .i64 0, .int .i64 0, .int .i64 0, .int .i64 0, .slice none 0 0, .slice none 0 0]) rfl
   have hE1 : Ext wr W1 := by
    rw [← hW1]
    exact setCells_ext (Nat.le_refl _) _ _ _ ((Ext.refl wr).alloc _)
   have HE1 := Lib.hid hE1
   have hltK := hB1.lt
   have HB9 := Lib.hid hB1
   obtain ⟨b0, b1, b2⟩ := (HB1r.out.ext hE1).c3
   clear hW1 hB1 hE1
   go_upto_region 25 with fail
   obtain ⟨tb, tx, yA, yc, yA', yc', hB, htb, hty, g0, g1, g2⟩ := HT.out
   subst hB
   have hx1 : Ext w W1.drew := (HX.out.trans HE1.out).drew
   have hcall := Hp.out m m2 W1.drew _ kt _ kv (TyAt.onx (Onx.of_ext hx1 _) _ _ _ hty) (VlAt.onx (Onx.of_ext HE1.out.drew _) _ _ _ HK.out) Hkg.out Hgkv.out (HEo.out.ext hx1)
   have Hcall := Lib.hid hcall
   have hS : W1.drew.cell? ⟨w.heap.size, 1, none⟩ = some (.slice (some ⟨tb, tx, none⟩) T.kids.length bc) ∧ W1.drew.cell? ⟨tb, tx + i * 3, none⟩ = some (.int .i64 kt.kind) ∧ W1.drew.cell? ⟨tb, tx + i * 3 + 1, none⟩ = some (.slice yA kt.kids.length yc) ∧ W1.drew.cell? ⟨tb, tx + i * 3 + 2, none⟩ = some (.slice yA' kt.names.length yc') ∧ W1.drew.rangeAt wr.heap.size 0 (vcells kv.sc xA xc xA1 kv.keys.length xc1 xA2 kv.kids.length xc2) :=
    ⟨(HB1r.out.ext HE1.out.drew).cell 1, hx1.cellS g0, hx1.cellS g1, hx1.cellS g2, Blk.range (HB9.out.ext ((Ext.refl W1).drew))⟩
   have HS := Lib.hid hS
   clear hcall hS hx1 hty g0 g1 g2 b0 b1 b2
   refine wp_region_K (fun w' => w'.cell? ⟨w.heap.size, 1, none⟩ = some (.slice (some ⟨tb, tx, none⟩) T.kids.length bc) ∧ w'.cell? ⟨tb, tx + i * 3, none⟩ = some (.int .i64 kt.kind) ∧ w'.cell? ⟨tb, tx + i * 3 + 1, none⟩ = some (.slice yA kt.kids.length yc) ∧ w'.cell? ⟨tb, tx + i * 3 + 2, none⟩ = some (.slice yA' kt.names.length yc') ∧ w'.rangeAt wr.heap.size 0 (vcells kv.sc xA xc xA1 kv.keys.length xc1 xA2 kv.kids.length xc2)) (ix [1, 4, 5]) 12 [false, false, false, false, false, false, false, false, false, false, false, false] (by kernel_rfl) rfl rfl ?_
   refine fV 0 (v := ?v25Lx0) rfl (by rfl) ?y25Lx0 ?_
   case y25Lx0 => intro w; go_simp; with_reducible rfl
   simp only [aP, aN, aT, aZ, aS]
   refine fV 2 (v := ?v25Lx2) rfl (by rfl) ?y25Lx2 ?_
   case y25Lx2 => intro w; go_simp; with_reducible rfl
   simp only [aP, aN, aT, aZ, aS]
   refine tV 1 (ix [3, 4, 6, 7, 8, 9, 10, 11]) (v := ?v25Lx1) rfl HS.out (by rfl) ?y25Lx1 ?_
   case y25Lx1 => rintro w ⟨s1, s2, s3, s4, s5⟩; go_simp; with_reducible rfl
   simp only [aP, aN, aT, aZ, aS]
   refine fV 3 (v := ?v25Lx3) rfl (by rfl) ?y25Lx3 ?_
   case y25Lx3 => intro w; go_simp; with_reducible rfl
   simp only [aP, aN, aT, aZ, aS]
   refine tV 4 (rg 6 11) (v := ?v25Lx4) rfl HS.out (by rfl) ?y25Lx4 ?_
   case y25Lx4 => rintro w ⟨s1, s2, s3, s4, s5⟩; go_simp; with_reducible rfl
   simp only [aP, aN, aT, aZ, aS]
   refine tG 5 (rg 6 11) rfl HS.out (yieldsIf_load_mid (by rfl) 30 _ rfl wr.heap.size 0 (by rfl) (vcells kv.sc xA xc xA1 kv.keys.length xc1 xA2 kv.kids.length xc2) _ (fun w' h => h.2.2.2.2) Tryz.underlying30 rfl hi30) ?_
   simp only [aP, aN, aT, aZ, aS]
   refine wpAnyK_oneg 6 (by kernel_rfl) rfl (by rfl) (fun K' hK => ?_)
   go_simp
   refine Hcall.out.mono ?_
   rintro e w2 ⟨G, rfl, hG, hE2⟩
   refine hK.out _ _ (fun h => absurd h (by decide)) ?_
   clear hK K'
   simp only [aP, aN, aT, aZ, aS]
   refine fV 7 (v := ?v25Lx7) rfl (by rfl) ?y25Lx7 ?_
   case y25Lx7 => intro w; go_simp; with_reducible rfl
   simp only [aP, aN, aT, aZ, aS]
   refine fV 8 (v := ?v25Lx8) rfl (by rfl) ?y25Lx8 ?_
   case y25Lx8 => intro w; go_simp; with_reducible rfl
   simp only [aP, aN, aT, aZ, aS]
   refine fV 9 (v := ?v25Lx9) rfl (by rfl) ?y25Lx9 ?_
   case y25Lx9 => intro w; go_simp; with_reducible rfl
   simp only [aP, aN, aT, aZ, aS]
   refine fV 10 (v := ?v25Lx10) rfl (by rfl) ?y25Lx10 ?_
   case y25Lx10 => intro w; go_simp; with_reducible rfl
   simp only [aP, aN, aT, aZ, aS]
   refine fV 11 (v := ?v25Lx11) rfl (by rfl) ?y25Lx11 ?_
   case y25Lx11 => intro w; go_simp; with_reducible rfl
   simp only [aP, aN, aT, aZ, aS]
   refine wpAnyK_done (by kernel_rfl) ?_ _
   have hE2' : Ext W1 w2 := (Ext.refl W1).drew.trans hE2
   have HE2 := Lib.hid hE2'
   have HG := Lib.hid hG
   have hsW : W1.heap.size ≤ w2.heap.size := hE2'.size
   obtain ⟨b0, b1, b2⟩ := ((HB1r.out.ext HE1.out).ext hE2').c3
   have hsw : w.heap.size ≤ w2.heap.size := (HX.out.trans (HE1.out.trans hE2')).size
   clear hE2 hE2' hG
   rcases HG.out.form with hGf | ⟨gt, gv, hGf⟩
   ·subst hGf
    go_wp2_with (at_builtin; refine wpList_append_lies _ rfl _ _ _ rfl (w.heap.size + 2) 20 i0 _ 1 16 Tryz.underlying151 hi0 hz0 hz1 hz2 rfl (by omega) (.slice lA i lc) i gs rfl ((ownsRow_ext HLp.out.own (HE1.out.trans HE2.out)).alloc _) ⟨w2.heap.size, 0, none⟩ 1 1 [.nilIface] rfl rfl (World.news_of_block (heap_alloc_new w2 _)) (by simp [Value.oneCell']) (by omega) (by unfold maxLen; omega) (by omega) (by simp; omega) (w2.heap.size + 1) (by simp) ?_; intro gg cap1 w3 hown3 hgrow hat hltg; obtain ⟨b03, b13, b23⟩ := (blk_grow HB1r.out HE1.out HE2.out hgrow (fun k hk => by have := (own_block HLp.out.own hk).1; omega)).c3)
    have hB3 := blk_grow HB1r.out HE1.out HE2.out hgrow (fun k hk => by have := (own_block HLp.out.own hk).1; omega)
    have hB4 := blk_grow HB2r.out HE1.out HE2.out hgrow (fun k hk => by have := (own_block HLp.out.own hk).1; omega)
    have HB3 := Lib.hid hB3
    have HB4 := Lib.hid hB4
    have hsz3 : w2.heap.size + 1 ≤ w3.heap.size := by have := hgrow.size; simpa using this
    have hstep := gloop_step HLp.out Hki.out HE1.out HE2.out (by rw [HFi.out]; exact HG.out) hown3 hgrow hat
    have Hstep := Lib.hid hstep
    clear hstep hown3 hgrow hat hB3 hB4
    go_wp2_with fail
    go_roundw
    case rel => exact ⟨i + 1, _, by go_num, Hstep.out, HB3.out, HB4.out, by omega⟩
    case measure => simp [intOf]; omega
   ·subst hGf
    go_wp2_with (at_builtin; refine wpList_append_lies _ rfl _ _ _ rfl (w.heap.size + 2) 20 i0 _ 1 16 Tryz.underlying151 hi0 hz0 hz1 hz2 rfl (by omega) (.slice lA i lc) i gs rfl ((ownsRow_ext HLp.out.own (HE1.out.trans HE2.out)).alloc _) ⟨w2.heap.size, 0, none⟩ 1 1 [.iface gt gv] rfl rfl (World.news_of_block (heap_alloc_new w2 _)) (by simp [Value.oneCell']) (by omega) (by unfold maxLen; omega) (by omega) (by simp; omega) (w2.heap.size + 1) (by simp) ?_; intro gg cap1 w3 hown3 hgrow hat hltg; obtain ⟨b03, b13, b23⟩ := (blk_grow HB1r.out HE1.out HE2.out hgrow (fun k hk => by have := (own_block HLp.out.own hk).1; omega)).c3)
    have hB3 := blk_grow HB1r.out HE1.out HE2.out hgrow (fun k hk => by have := (own_block HLp.out.own hk).1; omega)
    have hB4 := blk_grow HB2r.out HE1.out HE2.out hgrow (fun k hk => by have := (own_block HLp.out.own hk).1; omega)
    have HB3 := Lib.hid hB3
    have HB4 := Lib.hid hB4
    have hsz3 : w2.heap.size + 1 ≤ w3.heap.size := by have := hgrow.size; simpa using this
    have hstep := gloop_step HLp.out Hki.out HE1.out HE2.out (by rw [HFi.out]; exact HG.out) hown3 hgrow hat
    have Hstep := Lib.hid hstep
    clear hstep hown3 hgrow hat hB3 hB4
    go_wp2_with fail
    go_roundw
    case rel => exact ⟨i + 1, _, by go_num, Hstep.out, HB3.out, HB4.out, by omega⟩
    case measure => simp [intOf]; omega
  ·obtain rfl : i = V.kids.length := by omega
   obtain ⟨b0, b1, b2⟩ := HB1r.out.c3
   have hd9 := HB2r.out.cell 10
   have hlI : (V.kids.length : Int) = T.kids.length := by have := Hlen.out; omega
   have hd10 : wr.cell? ⟨w.heap.size + 1, 10, none⟩ = some (.slice A2 V.kids.length c2) := hd9
   clear hd9
   go_wp2_with fail
   go_quiet (fail)
   go_wp2_with fail
   go_ret2
   obtain ⟨A', c', hlv, e1, e2, e3, e4, e5⟩ := HLp.out.last ((Ext.refl wr).drewN nq)
   injection hlv with a1 a2 a3
   subst a1
   subst a3
   have hex : Ext w (wr.drewN nq) := HLp.out.ext.drewN nq
   refine ⟨_, rfl, .inr ⟨HN.out, .inr (.inr (.inr (.inl ⟨H32.out, _, _, gs, rfl, e1, e2, e3, e4, fun j t k ht hk => ?_⟩)))⟩, hex⟩
   obtain ⟨g, f1, f2⟩ := e5 j k hk
   have hFj : F j = t := by rw [HF.out]; exact getD_of ht
   rw [hFj] at f2
   exact ⟨g, f1, f2⟩
end Go.Proofs.YtammjbmfiakbnaaGreatDoor
