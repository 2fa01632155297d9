/- A part of the proof that the card of laws.FnMarshal holds. No conditions. -/
import Derived.Test.YtammjbmfiakbnaaGreatDoorSvl
import Derived.Test.YtammjbmfiakbnaaGreatDoorM02
set_option linter.unusedSimpArgs false
set_option linter.unusedVariables false
namespace Go.Proofs.YtammjbmfiakbnaaGreatDoor
open Go.RowKit
theorem info150 : (Tryz.prog.info? 150).map (fun i => (i.zero, i.size, i.bytes)) = some (some (.agg #[.nilIface, .nilIface]), 2, 32) := by kernel_rfl
theorem own_segRk {w : World} {b0 n k : Nat} {e : TypeId} {A : Option Addr} {m c : Nat} {xs : List Value} (h : w.ownsRow b0 e k (.slice A m c) n xs) : SegR (Bel b0) w A xs := fun hn => by
 obtain ⟨hl, h⟩ := h
 rcases h with ⟨_, h0⟩ | ⟨g, cap, cur, hv, hb, hg, hc, hm, hs, ht⟩
 ·rw [h0] at hl
  exact absurd (List.length_eq_zero_iff.1 (by omega)) hn
 ·injection hv with hv
  subst hv
  refine ⟨g, 0, rfl, (Array.getElem?_eq_some_iff.1 hg).1, fun h : g < b0 => by omega, fun j u hu => ?_⟩
  rw [Nat.zero_add]
  simp only [World.cell?, hg]
  rw [← ht] at hu
  rw [List.getElem?_take] at hu
  split at hu
  ·simpa using hu
  ·cases hu
theorem own_capk {w : World} {b0 n c l k : Nat} {e : TypeId} {A : Option Addr} {xs : List Value} (h : w.ownsRow b0 e k (.slice A n c) l xs) : n = l ∧ n ≤ c ∧ c ≤ maxLen := by
 rcases h.2 with ⟨hv, h0⟩ | ⟨g, cap, cur, hv, _, _, hc, hm, _⟩
 ·injection hv with _ h1 h2; subst h1; subst h2; exact ⟨h0.symm, Nat.le_refl _, Nat.zero_le _⟩
 ·injection hv with _ h1 h2; subst h1; subst h2; exact ⟨rfl, hc, hm⟩
theorem fresh_rowK {w : World} {b b0 k : Nat} {e : TypeId} (hb : w.heap[b]? = some (.cells #[] e (0, 0))) (h0 : b0 ≤ b) : w.ownsRow b0 e k (.slice (some ⟨b, 0, none⟩) 0 0) 0 [] :=
 ⟨by simp, .inr ⟨b, 0, #[], rfl, h0, hb, Nat.le_refl _, by unfold maxLen; omega, by simp, by simp⟩⟩
/-- What the maps' loop keeps. -/
structure PLoop (n : Nat) (kt lt : Ty) (ks ds : List Vl) (w wr : World) (i : Nat) (lv : Value) (gs : List Value) : Prop where
 le : i ≤ ks.length
 ext : Ext w wr
 own : wr.ownsRow (w.heap.size + 2) 150 2 lv i gs
 kids : ∀ (j : Nat) (a b : Vl), j < i → ks[j]? = some a → ds[j]? = some b → ∃ g g', gs[j * 2]? = some g ∧ gs[j * 2 + 1]? = some g' ∧ GivenAt (XI (Bel w.heap.size) lv) n wr g kt a ∧ GivenAt (XI (Bel w.heap.size) lv) n wr g' lt b
 nn : ∃ a m c, lv = .slice (some a) m c
theorem ploop_step {n : Nat} {kt lt : Ty} {ks ds : List Vl} {w wr W1 w2 w3 w4 : World} {i gg cap : Nat} {lv g g' : Value} {gs : List Value} {ob : Obj} {a b : Vl}
  (L : PLoop n kt lt ks ds w wr i lv gs) (ha : ks[i]? = some a) (hb : ds[i]? = some b) (hE1 : Ext wr W1) (hE2 : Ext W1 w2) (hE3 : Ext w2 w3) (hG : GivenAt (Bel W1.heap.size) n w2 g kt a) (hG' : GivenAt (Bel w2.heap.size) n w3 g' lt b)
  (hown : w4.ownsRow (w.heap.size + 2) 150 2 (.slice (some ⟨gg, 0, none⟩) (i + 1) cap) (i + 1) (gs ++ [g, g'])) (hgrow : (w3.alloc ob).grownBy w4 lv.ownBlock) (hat : lv.ownBlock = some gg ∨ gg = w3.heap.size + 1) :
  PLoop n kt lt ks ds w w4 (i + 1) (.slice (some ⟨gg, 0, none⟩) (i + 1) cap) (gs ++ [g, g']) := by
 have hlt := (List.getElem?_eq_some_iff.1 ha).1
 have hlen : gs.length = i * 2 := L.own.1
 have s0 := L.ext.size
 have s1 := hE1.size
 have s2 := hE2.size
 have hx : ∀ m, wr.heap.size ≤ m → ∀ c, XI (Bel w.heap.size) lv c → Bel m c ∨ w2.heap.size ≤ c := fun m hm c hc => by
  rcases hc with hc | hc
  ·exact .inl (show c < m by have : c < w.heap.size := hc; omega)
  ·exact .inl (show c < m by have := (own_block L.own hc).2; omega)
 have hI : GivenAt (XI (Bel w.heap.size) lv) n w3 g kt a := (GivenAt.rel n g kt a).ext ((GivenAt.rel n g kt a).weak _ _ _ (hx _ s1) hG) hE3
 have hI' : GivenAt (XI (Bel w.heap.size) lv) n w3 g' lt b := (GivenAt.rel n g' lt b).weak _ _ _ (fun c hc => by
  rcases hx w2.heap.size (by omega) c hc with h | h
  ·exact .inl h
  ·exact absurd h (by
    rcases hc with hc | hc
    ·have : c < w.heap.size := hc; omega
    ·have := (own_block L.own hc).2; omega)) hG'
 refine ⟨by omega, ?_, hown, fun j t u hj ht hu => ?_, ⟨_, _, _, rfl⟩⟩
 ·exact ((((L.ext.trans hE1).trans hE2).trans hE3).alloc ob).grown hgrow (fun k hk => by have := (own_block L.own hk).1; omega)
 ·by_cases hji : j = i
  ·subst hji
   rw [ha] at ht
   injection ht with ht
   subst ht
   rw [hb] at hu
   injection hu with hu
   subst hu
   exact ⟨g, g', by rw [List.getElem?_append_right (by omega)]; simp [hlen], by rw [List.getElem?_append_right (by omega)]; simp [hlen], (GivenAt.rel n _ _ _).grow hI hgrow hat, (GivenAt.rel n _ _ _).grow hI' hgrow hat⟩
  ·obtain ⟨x, y, h1, h2, h3, h4⟩ := L.kids j t u (by omega) ht hu
   have hE := (hE1.trans hE2).trans hE3
   exact ⟨x, y, by rw [List.getElem?_append_left (by omega)]; exact h1, by rw [List.getElem?_append_left (by omega)]; exact h2, (GivenAt.rel n _ _ _).grow ((GivenAt.rel n _ _ _).ext h3 hE) hgrow hat, (GivenAt.rel n _ _ _).grow ((GivenAt.rel n _ _ _).ext h4 hE) hgrow hat⟩
theorem PLoop.last {n : Nat} {kt lt : Ty} {ks ds : List Vl} {w wr w' : World} {lv : Value} {gs : List Value} (L : PLoop n kt lt ks ds w wr ks.length lv gs) (he : Ext wr w') :
  ∃ A c, lv = .slice (some A) ks.length c ∧ ks.length ≤ c ∧ c ≤ maxLen ∧ gs.length = ks.length * 2 ∧ SegR (Bel w.heap.size) w' (some A) gs ∧
   ∀ (j : Nat) (a b : Vl), ks[j]? = some a → ds[j]? = some b → ∃ g g', gs[j * 2]? = some g ∧ gs[j * 2 + 1]? = some g' ∧ GivenAt (Bel w.heap.size) n w' g kt a ∧ GivenAt (Bel w.heap.size) n w' g' lt b := by
 obtain ⟨A, m, c, rfl⟩ : ∃ A m c, lv = .slice A m c := by
  rcases L.own.2 with ⟨hv, _⟩ | ⟨g, cap, cur, hv, _⟩
  ·exact ⟨_, _, _, hv⟩
  ·exact ⟨_, _, _, hv⟩
 obtain ⟨rfl, h2, h3⟩ := own_capk L.own
 obtain ⟨ad, _, _, had⟩ := L.nn
 injection had with had _ _
 subst had
 refine ⟨ad, c, rfl, h2, h3, L.own.1, (own_segRk (ownsRow_ext L.own he)).weak (fun b hb => .inl (show b < w.heap.size + 2 by have : b < w.heap.size := hb; omega)), fun j a b ha hb => ?_⟩
 obtain ⟨g, g', h1, h2, h3, h4⟩ := L.kids j a b (List.getElem?_eq_some_iff.1 ha).1 ha hb
 have hw : ∀ c, Bel w.heap.size c → XI (Bel w.heap.size) (.slice (some ad) ks.length c) c ∨ wr.heap.size ≤ c := fun c hc => .inl (.inl hc)
 exact ⟨g, g', h1, h2, (GivenAt.rel n _ _ _).ext ((GivenAt.rel n _ _ _).weak _ _ _ (fun b hb => .inl (.inl hb)) h3) he, (GivenAt.rel n _ _ _).ext ((GivenAt.rel n _ _ _).weak _ _ _ (fun b hb => .inl (.inl hb)) h4) he⟩
set_option maxRecDepth 100000 in
set_option maxHeartbeats 16000000 in
theorem sev_map (n : Nat) (hp : GivP n) (m m2 : Nat) (w : World) (tv : Value) (T : Ty) (vs : List Value) (V : Vl) (hT : TyAt (fun _ => False) m w tv T) (hV : VlAt (fun _ => False) m2 w vs V) (hG : Good (n + 1) T) (hn : V.sc.nul = false) (hg : GoodV (n + 1) T V) (hEo : EofAt w) (h : T.kind = 33) :
  Calls Tryz.prog 51 #[tv, .agg vs.toArray] w (GivPost (n + 1) T V w) := by
 obtain ⟨B, bc, B', bc', rfl⟩ := hT.form
 cases m2 with
 |zero => exact hV.elim
 |succ m2 =>
 cases m with
 |zero => exact hT.elim
 |succ m =>
 have hl2 : T.kids.length = 2 := by
  have := hG.2
  unfold Shape at this
  omega
 have hkt : T.kids[0]? = some T.kids[0] := List.getElem?_eq_getElem (by omega)
 have hkg : Good n T.kids[0] := hG.1 _ (List.getElem_mem _)
 have hmt : T.kids[1]? = some T.kids[1] := List.getElem?_eq_getElem (by omega)
 have hmg : Good n T.kids[1] := hG.1 _ (List.getElem_mem _)
 generalize T.kids[0] = kt at hkt hkg
 generalize T.kids[1] = lt at hmt hmg
 have HT := Lib.hid (tkid_at hT hkt)
 have HU := Lib.hid (tkid_at hT hmt)
 have hgk : V.keys.length = V.kids.length ∧ V.kids.length ≤ 20 ∧ (∀ k ∈ V.keys, GoodV n kt k) ∧ ∀ k ∈ V.kids, GoodV n lt k := by
  obtain ⟨-, h20, hg⟩ := hg
  rcases hg with ⟨h', _⟩ | ⟨h', _⟩ | ⟨_, hl, t, t', ht, ht', hall, hall'⟩ | ⟨h', _⟩
  ·omega
  ·omega
  ·rw [hkt] at ht
   injection ht with ht
   subst ht
   rw [hmt] at ht'
   injection ht' with ht'
   subst ht'
   exact ⟨hl, h20, hall, hall'⟩
  ·omega
 obtain ⟨hkl, h20, hgk, hgk'⟩ := hgk
 have Hgk := Lib.hid hgk
 have Hgk' := Lib.hid hgk'
 have Hkt := Lib.hid hkt
 have Hkg := Lib.hid hkg
 have Hmt := Lib.hid hmt
 have Hmg := Lib.hid hmg
 have Hkl := Lib.hid hkl
 have hbd : (T.kids.length : Int) = 2 := by omega
 have hb1 : (1 : Int) < T.kids.length := by omega
 have hb0 : (0 : Int) < T.kids.length := by omega
 have hb0n : 0 < T.kids.length := by omega
 have hb1n : 1 < T.kids.length := by omega
 have h20' : V.keys.length ≤ 20 := by omega
 clear hgk hgk' hkt hkg hmt hmg hl2 hkl
 obtain ⟨A, c, A1, c1, A2, c2, rfl, q1, q2, q3, q4, q5, q6, hs, hd, hrow1, hrow⟩ := hV
 have HR := Lib.hid hrow
 have HR1 := Lib.hid hrow1
 have Hp := Lib.hid hp
 have HEo := Lib.hid hEo
 have HN := Lib.hid hn
 obtain ⟨i0, hi0, hz0, hz1, hz2⟩ := info_parts info150
 clear hT hs hG hd hg hrow hrow1 hp hEo hn
 simp only [vcells]
 rw [h]
 have Hkind := Lib.hid h
 clear h
 unfold maxLen at q2 q4 q6
 have Hbd := Lib.hid hbd
 clear hbd
 go_enter Tryz.func51, Tryz.ntmps51
 go_wp2_with fail
 generalize hW : World.alloc (World.alloc (World.alloc w _) _) _ = W
 have h0 : Blk W w.heap.size 25 #[.int .i64 33, .slice B T.kids.length bc, .slice B' T.names.length bc'] ∧ Blk W (w.heap.size + 1) 30 #[.bool V.sc.nul, .int .i64 V.sc.n, .float .f64 V.sc.f, .string V.sc.text, .slice A V.sc.data.length c, .int .i64 V.sc.scale, .int .i64 V.sc.months, .int .i64 V.sc.days, .int .i64 V.sc.nanos, .slice A1 V.keys.length c1, .slice A2 V.kids.length c2] ∧ W.heap[w.heap.size + 1 + 1]? = some (.cells #[] 150 (0, 0)) ∧ Ext w W := by
  rw [← hW]
  exact ⟨((Blk.new w 25 _).alloc _).alloc _, (Blk.new' _ _ 30 _ (by simp)).alloc _, Blk.new' _ _ 150 _ (by simp), (((Ext.refl w).alloc _).alloc _).alloc _⟩
 clear hW
 obtain ⟨hb1', hb2, hl0, hE⟩ := h0
 have HE := Lib.hid hE
 have HB1 := Lib.hid hb1'
 have HB2 := Lib.hid hb2
 have HL0 := Lib.hid hl0
 have hlt1 := hb1'.lt
 have hlt2 := hb2.lt
 clear hb1' hb2 hl0 hE
 have hi30 := info30s
 go_loopw [6, 27] (fun lv v wr => ∃ (i : Nat) (gs : List Value), v = .int .i64 i ∧ PLoop n kt lt V.keys V.kids w wr i lv gs ∧ Blk wr w.heap.size 25 #[.int .i64 33, .slice B T.kids.length bc, .slice B' T.names.length bc'] ∧ Blk wr (w.heap.size + 1) 30 #[.bool V.sc.nul, .int .i64 V.sc.n, .float .f64 V.sc.f, .string V.sc.text, .slice A V.sc.data.length c, .int .i64 V.sc.scale, .int .i64 V.sc.months, .int .i64 V.sc.days, .int .i64 V.sc.nanos, .slice A1 V.keys.length c1, .slice A2 V.kids.length c2] ∧ w.heap.size + 2 ≤ wr.heap.size) (fun _ v _ => V.keys.length - (intOf v).toNat)
 case atStart => exact ⟨0, [], rfl, ⟨Nat.zero_le _, HE.out, fresh_rowK HL0.out (by omega), fun j a b hj => by omega, ⟨_, _, _, rfl⟩⟩, HB1.out, HB2.out, by omega⟩
 case round =>
  obtain ⟨i, gs, rfl, hL, hB1r, hB2r, hszr⟩ := hrel
  obtain ⟨lA, lm, lc, rfl⟩ : ∃ A m c, u6 = .slice A m c := by
   rcases hL.own.2 with ⟨hv, _⟩ | ⟨g, cap, cur, hv, _⟩
   ·exact ⟨_, _, _, hv⟩
   ·exact ⟨_, _, _, hv⟩
  obtain ⟨rfl, hlc, -⟩ := own_capk hL.own
  have hi := hL.le
  have HLp := Lib.hid hL
  have HB1r := Lib.hid hB1r
  have HB2r := Lib.hid hB2r
  clear hL hB1r hB2r
  by_cases hlti : (lm : Int) < V.keys.length
  ·have hi' : lm < V.keys.length := by omega
   have hj' : lm < V.kids.length := by have := Hkl.out; omega
   have hltj : (lm : Int) < V.kids.length := by omega
   have Hgkv := Lib.hid (Hgk.out V.keys[lm] (List.getElem_mem hi'))
   have Hgkw := Lib.hid (Hgk'.out V.kids[lm] (List.getElem_mem hj'))
   have hkx : V.keys[lm]? = some V.keys[lm] := List.getElem?_eq_getElem hi'
   obtain ⟨b, o, xA, xc, xA1, xc1, xA2, xc2, hA, hb, hx1, hr1⟩ := kid_at HR1.out hkx
   generalize V.keys[lm] = kx at hkx hx1 hr1 Hgkv
   subst hA
   have hky : V.kids[lm]? = some V.kids[lm] := List.getElem?_eq_getElem hj'
   obtain ⟨b2, o2, zA, zc, zA1, zc1, zA2, zc2, hA, hb2, hx2, hr2⟩ := kid_at HR.out hky
   generalize V.kids[lm] = ky at hky hx2 hr2 Hgkw
   subst hA
   have hEx : Ext w wr := HLp.out.ext
   have HK := Lib.hid (VlAt.onx (Onx.of_ext hEx _) _ _ _ hx1)
   have HK2 := Lib.hid (VlAt.onx (Onx.of_ext hEx _) _ _ _ hx2)
   have HX := Lib.hid hEx
   have hrange : wr.rangeAt b (o + lm * 11) (vcells kx.sc xA xc xA1 kx.keys.length xc1 xA2 kx.kids.length xc2) := fun j u hu => hEx.cellS (hr1 j u hu)
   have Hrange := Lib.hid hrange
   have hrange2 : wr.rangeAt b2 (o2 + lm * 11) (vcells ky.sc zA zc zA1 ky.keys.length zc1 zA2 ky.kids.length zc2) := fun j u hu => hEx.cellS (hr2 j u hu)
   have Hrange2 := Lib.hid hrange2
   have Hkx := Lib.hid hkx
   have Hky := Lib.hid hky
   clear hx1 hx2 hkx hky hEx hr1 hr2 hrange hrange2
   go_upto_region 5 with fail
   refine wp_region_lit ?_
   iterate 2 (refine wpList_plain rfl (fun K hK => ?_); go_simp; refine hK _ _ ?_; clear hK K; try simp only [aP, aN, aT, aZ, aS])
   refine wpList_load_mid rfl 30 _ rfl b (o + lm * 11) (by rfl) (vcells kx.sc xA xc xA1 kx.keys.length xc1 xA2 kx.kids.length xc2) _ Hrange.out Tryz.underlying30 rfl hi30 ?_
   try simp only [aP, aN, aT, aZ, aS]
   iterate 2 (refine wpList_plain rfl (fun K hK => ?_); go_simp; refine hK _ _ ?_; clear hK K; try simp only [aP, aN, aT, aZ, aS])
   refine wpList_store_mid rfl 30 _ _ rfl wr.heap.size 0 (vcells kx.sc xA xc xA1 kx.keys.length xc1 xA2 kx.kids.length xc2).toArray (by rfl) (by rfl) ((Blk.new wr 30 #[.bool false, .int .i64 0, .float .f64 0, .string ⟨#[]⟩, .slice none 0 0, .int .i64 0, .int .i64 0, .int .i64 0, .int .i64 0, .slice none 0 0, .slice none 0 0]).there rfl) hi30 (by simp [vcells, Value.oneCell']) ?_
   generalize hW1 : World.setCells _ _ _ _ = W1
   have hB1 : Blk W1 wr.heap.size 30 (vcells kx.sc xA xc xA1 kx.keys.length xc1 xA2 kx.kids.length xc2).toArray := by
    rw [← hW1]
    exact Blk.setCells (Blk.new wr 30 #[.bool false, .int .i64 0, .float .f64 0, .string ⟨#[]⟩, .slice none 0 0, .int .i64 0, .int .i64 0, .int .i64 0, .int .i64 0, .slice none 0 0, .slice none 0 0]) rfl
   have hE1 : Ext wr W1 := by
    rw [← hW1]
    exact setCells_ext (Nat.le_refl _) _ _ _ ((Ext.refl wr).alloc _)
   have HE1 := Lib.hid hE1
   have hltK := hB1.lt
   have HB9 := Lib.hid hB1
   obtain ⟨p0, p1, p2⟩ := (HB1r.out.ext hE1).c3
   have p10 : W1.cell? ⟨w.heap.size + 1, 10, none⟩ = some (.slice (some ⟨b2, o2, none⟩) V.kids.length c2) := (HB2r.out.ext hE1).cell 10
   have hbd := Hbd.out
   clear hW1 hB1 hE1
   go_upto_region 8 with fail
   clear hbd
   obtain ⟨tb, tx, yA, yc, yA', yc', hB, htb, hty, g0, g1, g2⟩ := HT.out
   obtain ⟨tb', tx', uA, uc, uA', uc', hB', htb', hty', f0, f1, f2⟩ := HU.out
   rw [Nat.zero_mul, Nat.add_zero] at g0 g1 g2
   subst hB
   injection hB' with hB'
   injection hB' with hB1' hB2'
   subst hB1'
   subst hB2'
   have hx1 : Ext w W1.drew := (HX.out.trans HE1.out).drew
   have hcall := Hp.out m m2 W1.drew _ kt _ kx (TyAt.onx (Onx.of_ext hx1 _) _ _ _ hty) (VlAt.onx (Onx.of_ext HE1.out.drew _) _ _ _ HK.out) Hkg.out (.inr Hgkv.out) (HEo.out.ext hx1)
   have Hcall := Lib.hid hcall
   have hS : W1.drew.cell? ⟨w.heap.size, 1, none⟩ = some (.slice (some ⟨tb, tx, none⟩) T.kids.length bc) ∧ W1.drew.cell? ⟨tb, tx, none⟩ = some (.int .i64 kt.kind) ∧ W1.drew.cell? ⟨tb, tx + 1, none⟩ = some (.slice yA kt.kids.length yc) ∧ W1.drew.cell? ⟨tb, tx + 2, none⟩ = some (.slice yA' kt.names.length yc') ∧ W1.drew.rangeAt wr.heap.size 0 (vcells kx.sc xA xc xA1 kx.keys.length xc1 xA2 kx.kids.length xc2) :=
    ⟨(HB1r.out.ext HE1.out.drew).cell 1, hx1.cellS g0, hx1.cellS g1, hx1.cellS g2, Blk.range (HB9.out.ext ((Ext.refl W1).drew))⟩
   have HS := Lib.hid hS
   have hS2 : ∀ wz, Ext W1 wz → wz.cell? ⟨w.heap.size, 1, none⟩ = some (.slice (some ⟨tb, tx, none⟩) T.kids.length bc) ∧ wz.cell? ⟨w.heap.size + 1, 10, none⟩ = some (.slice (some ⟨b2, o2, none⟩) V.kids.length c2) ∧ wz.cell? ⟨tb, tx + 3, none⟩ = some (.int .i64 lt.kind) ∧ wz.cell? ⟨tb, tx + 4, none⟩ = some (.slice uA lt.kids.length uc) ∧ wz.cell? ⟨tb, tx + 5, none⟩ = some (.slice uA' lt.names.length uc') ∧ wz.rangeAt b2 (o2 + lm * 11) (vcells ky.sc zA zc zA1 ky.keys.length zc1 zA2 ky.kids.length zc2) := fun wz hz =>
    have hz' : Ext w wz := (HX.out.trans HE1.out).trans hz
    ⟨((HB1r.out.ext HE1.out).ext hz).cell 1, ((HB2r.out.ext HE1.out).ext hz).cell 10, hz'.cellS f0, hz'.cellS f1, hz'.cellS f2, fun j u hu => (HE1.out.trans hz).cellS (Hrange2.out j u hu)⟩
   have HS2 := Lib.hid hS2
   have hcall2 : ∀ wz, Ext W1 wz → _ := fun wz hz => Hp.out m m2 wz _ lt _ ky (TyAt.onx (Onx.of_ext ((HX.out.trans HE1.out).trans hz) _) _ _ _ hty') (VlAt.onx (Onx.of_ext (HE1.out.trans hz) _) _ _ _ HK2.out) Hmg.out (.inr Hgkw.out) (HEo.out.ext ((HX.out.trans HE1.out).trans hz))
   have Hcall2 := Lib.hid hcall2
   clear hcall hcall2 hS hS2 hx1 hty hty' g0 g1 g2 f0 f1 f2 p0 p1 p2 p10
   refine wp_region_K (fun w' => w'.cell? ⟨w.heap.size, 1, none⟩ = some (.slice (some ⟨tb, tx, none⟩) T.kids.length bc) ∧ w'.cell? ⟨tb, tx, none⟩ = some (.int .i64 kt.kind) ∧ w'.cell? ⟨tb, tx + 1, none⟩ = some (.slice yA kt.kids.length yc) ∧ w'.cell? ⟨tb, tx + 2, none⟩ = some (.slice yA' kt.names.length yc') ∧ w'.rangeAt wr.heap.size 0 (vcells kx.sc xA xc xA1 kx.keys.length xc1 xA2 kx.kids.length xc2)) (ix [1, 3, 4]) 11 [false, false, false, false, false, false, false, false, false, false, false] (by kernel_rfl) rfl rfl ?_
   refine fV 0 (v := ?v8Lx0) rfl (by rfl) ?y8Lx0 ?_
   case y8Lx0 => intro w; go_simp; with_reducible rfl
   simp only [aP, aN, aT, aZ, aS]
   refine tV 1 (ix [2, 3, 5, 6, 7, 8, 9, 10]) (v := ?v8Lx1) rfl HS.out (by rfl) ?y8Lx1 ?_
   case y8Lx1 => rintro w ⟨s1, s2, s3, s4, s5⟩; go_simp; with_reducible rfl
   simp only [aP, aN, aT, aZ, aS]
   refine fV 2 (v := ?v8Lx2) rfl (by rfl) ?y8Lx2 ?_
   case y8Lx2 => intro w; go_simp; with_reducible rfl
   simp only [aP, aN, aT, aZ, aS]
   refine tV 3 (rg 5 10) (v := ?v8Lx3) rfl HS.out (by rfl) ?y8Lx3 ?_
   case y8Lx3 => rintro w ⟨s1, s2, s3, s4, s5⟩; go_simp; with_reducible rfl
   simp only [aP, aN, aT, aZ, aS]
   refine tG 4 (rg 5 10) rfl HS.out (yieldsIf_load_mid (by rfl) 30 _ rfl wr.heap.size 0 (by rfl) (vcells kx.sc xA xc xA1 kx.keys.length xc1 xA2 kx.kids.length xc2) _ (fun w' h => h.2.2.2.2) Tryz.underlying30 rfl hi30) ?_
   simp only [aP, aN, aT, aZ, aS]
   refine wpAnyK_oneg 5 (by kernel_rfl) rfl (by rfl) (fun K' hK => ?_)
   go_simp
   refine Hcall.out.mono ?_
   rintro e w2 ⟨G, rfl, hG, hE2⟩
   refine hK.out _ _ (fun h => absurd h (by decide)) ?_
   clear hK K'
   simp only [aP, aN, aT, aZ, aS]
   refine fV 6 (v := ?v8Lx6) rfl (by rfl) ?y8Lx6 ?_
   case y8Lx6 => intro w; go_simp; with_reducible rfl
   simp only [aP, aN, aT, aZ, aS]
   refine fV 7 (v := ?v8Lx7) rfl (by rfl) ?y8Lx7 ?_
   case y8Lx7 => intro w; go_simp; with_reducible rfl
   simp only [aP, aN, aT, aZ, aS]
   refine fV 8 (v := ?v8Lx8) rfl (by rfl) ?y8Lx8 ?_
   case y8Lx8 => intro w; go_simp; with_reducible rfl
   simp only [aP, aN, aT, aZ, aS]
   refine fV 9 (v := ?v8Lx9) rfl (by rfl) ?y8Lx9 ?_
   case y8Lx9 => intro w; go_simp; with_reducible rfl
   simp only [aP, aN, aT, aZ, aS]
   refine fV 10 (v := ?v8Lx10) rfl (by rfl) ?y8Lx10 ?_
   case y8Lx10 => intro w; go_simp; with_reducible rfl
   simp only [aP, aN, aT, aZ, aS]
   refine wpAnyK_done (by kernel_rfl) ?_ _
   have hE2' : Ext W1 w2 := (Ext.refl W1).drew.trans hE2
   have HE2 := Lib.hid hE2'
   have HG := Lib.hid hG
   have hsW : W1.heap.size ≤ w2.heap.size := hE2'.size
   have hS3 := HS2.out w2.drew hE2'.drew
   have HS3 := Lib.hid hS3
   have Hcall3 := Lib.hid (Hcall2.out w2.drew hE2'.drew)
   clear hE2 hE2' hG hS3
   go_upto_region 9 with fail
   refine wp_region_K (fun w' => w'.cell? ⟨w.heap.size, 1, none⟩ = some (.slice (some ⟨tb, tx, none⟩) T.kids.length bc) ∧ w'.cell? ⟨w.heap.size + 1, 10, none⟩ = some (.slice (some ⟨b2, o2, none⟩) V.kids.length c2) ∧ w'.cell? ⟨tb, tx + 3, none⟩ = some (.int .i64 lt.kind) ∧ w'.cell? ⟨tb, tx + 4, none⟩ = some (.slice uA lt.kids.length uc) ∧ w'.cell? ⟨tb, tx + 5, none⟩ = some (.slice uA' lt.names.length uc') ∧ w'.rangeAt b2 (o2 + lm * 11) (vcells ky.sc zA zc zA1 ky.keys.length zc1 zA2 ky.kids.length zc2)) (ix [1, 3, 5, 7, 8]) 15 [false, false, false, false, false, false, false, false, false, false, false, false, false, false, false] (by kernel_rfl) rfl rfl ?_
   refine fV 0 (v := ?v9Mx0) rfl (by rfl) ?y9Mx0 ?_
   case y9Mx0 => intro w; go_simp; with_reducible rfl
   simp only [aP, aN, aT, aZ, aS]
   refine fV 4 (v := ?v9Mx4) rfl (by rfl) ?y9Mx4 ?_
   case y9Mx4 => intro w; go_simp; with_reducible rfl
   simp only [aP, aN, aT, aZ, aS]
   refine fV 6 (v := ?v9Mx6) rfl (by rfl) ?y9Mx6 ?_
   case y9Mx6 => intro w; go_simp; with_reducible rfl
   simp only [aP, aN, aT, aZ, aS]
   refine tV 1 (ix [2, 3, 9, 10, 11, 12, 13, 14]) (v := ?v9Mx1) rfl HS3.out (by rfl) ?y9Mx1 ?_
   case y9Mx1 => rintro w ⟨s1, s2, s3, s4, s5, s6⟩; go_simp; with_reducible rfl
   simp only [aP, aN, aT, aZ, aS]
   refine fV 2 (v := ?v9Mx2) rfl (by rfl) ?y9Mx2 ?_
   case y9Mx2 => intro w; go_simp; with_reducible rfl
   simp only [aP, aN, aT, aZ, aS]
   refine tV 3 (rg 9 14) (v := ?v9Mx3) rfl HS3.out (by rfl) ?y9Mx3 ?_
   case y9Mx3 => rintro w ⟨s1, s2, s3, s4, s5, s6⟩; go_simp; with_reducible rfl
   simp only [aP, aN, aT, aZ, aS]
   refine tV 5 (rg 7 14) (v := ?v9Mx5) rfl HS3.out (by rfl) ?y9Mx5 ?_
   case y9Mx5 => rintro w ⟨s1, s2, s3, s4, s5, s6⟩; go_simp; with_reducible rfl
   simp only [aP, aN, aT, aZ, aS]
   refine tV 7 (rg 8 14) (v := ?v9Mx7) rfl HS3.out (by rfl) ?y9Mx7 ?_
   case y9Mx7 => rintro w ⟨s1, s2, s3, s4, s5, s6⟩; go_simp; with_reducible rfl
   simp only [aP, aN, aT, aZ, aS]
   refine tG 8 (rg 9 14) rfl HS3.out (yieldsIf_load_mid (by rfl) 30 _ rfl b2 (o2 + lm * 11) (by rfl) (vcells ky.sc zA zc zA1 ky.keys.length zc1 zA2 ky.kids.length zc2) _ (fun w' h => h.2.2.2.2.2) Tryz.underlying30 rfl hi30) ?_
   simp only [aP, aN, aT, aZ, aS]
   refine wpAnyK_oneg 9 (by kernel_rfl) rfl (by rfl) (fun K' hK => ?_)
   go_simp
   refine Hcall3.out.mono ?_
   rintro e w3 ⟨G2, rfl, hG2, hE3⟩
   refine hK.out _ _ (fun h => absurd h (by decide)) ?_
   clear hK K'
   simp only [aP, aN, aT, aZ, aS]
   refine fV 10 (v := ?v9Mx10) rfl (by rfl) ?y9Mx10 ?_
   case y9Mx10 => intro w; go_simp; with_reducible rfl
   simp only [aP, aN, aT, aZ, aS]
   refine fV 11 (v := ?v9Mx11) rfl (by rfl) ?y9Mx11 ?_
   case y9Mx11 => intro w; go_simp; with_reducible rfl
   simp only [aP, aN, aT, aZ, aS]
   refine fV 12 (v := ?v9Mx12) rfl (by rfl) ?y9Mx12 ?_
   case y9Mx12 => intro w; go_simp; with_reducible rfl
   simp only [aP, aN, aT, aZ, aS]
   refine fV 13 (v := ?v9Mx13) rfl (by rfl) ?y9Mx13 ?_
   case y9Mx13 => intro w; go_simp; with_reducible rfl
   simp only [aP, aN, aT, aZ, aS]
   refine fV 14 (v := ?v9Mx14) rfl (by rfl) ?y9Mx14 ?_
   case y9Mx14 => intro w; go_simp; with_reducible rfl
   simp only [aP, aN, aT, aZ, aS]
   refine wpAnyK_done (by kernel_rfl) ?_ _
   have hE3' : Ext w2 w3 := (Ext.refl w2).drew.trans hE3
   have HE3 := Lib.hid hE3'
   have HG2 := Lib.hid hG2
   have hsV : w2.heap.size ≤ w3.heap.size := hE3'.size
   have hsw : w.heap.size ≤ w3.heap.size := by have := (HX.out.trans HE1.out).size; omega
   clear hE3 hE3' hG2
   rcases HG.out.form with hGf | ⟨gt, gv, hGf⟩ <;> rcases HG2.out.form with hGf2 | ⟨gt2, gv2, hGf2⟩
   ·subst hGf
    subst hGf2
    go_wp2_with (at_builtin; refine wpList_append_lies _ rfl _ _ _ rfl (w.heap.size + 2) 150 i0 _ 2 32 Tryz.underlying148 hi0 hz0 hz1 hz2 rfl (by omega) (.slice lA lm lc) lm gs rfl ((ownsRow_ext HLp.out.own ((HE1.out.trans HE2.out).trans HE3.out)).alloc _) ⟨w3.heap.size, 0, none⟩ 1 1 [.nilIface, .nilIface] rfl rfl (World.news_of_block (heap_alloc_new w3 _)) (by simp [Value.oneCell']) (by omega) (by unfold maxLen; omega) (by omega) (by simp; omega) (w3.heap.size + 1) (by simp) ?_; intro gg cap1 w4 hown3 hgrow hat hltg)
    have hB3 := blk_grow HB1r.out (HE1.out.trans HE2.out) HE3.out hgrow (fun k hk => by have := (own_block HLp.out.own hk).1; omega)
    have hB4 := blk_grow HB2r.out (HE1.out.trans HE2.out) HE3.out hgrow (fun k hk => by have := (own_block HLp.out.own hk).1; omega)
    have HB3 := Lib.hid hB3
    have HB4 := Lib.hid hB4
    have hsz3 : w3.heap.size + 1 ≤ w4.heap.size := by have := hgrow.size; simpa using this
    have hstep := ploop_step HLp.out Hkx.out Hky.out HE1.out HE2.out HE3.out HG.out HG2.out hown3 hgrow hat
    have Hstep := Lib.hid hstep
    clear hstep hown3 hgrow hat hB3 hB4
    go_wp2_with fail
    go_roundw
    case rel => exact ⟨lm + 1, _, by go_num, Hstep.out, HB3.out, HB4.out, by have := HE1.out.size; omega⟩
    case measure => simp [intOf]; omega
   ·subst hGf
    subst hGf2
    go_wp2_with (at_builtin; refine wpList_append_lies _ rfl _ _ _ rfl (w.heap.size + 2) 150 i0 _ 2 32 Tryz.underlying148 hi0 hz0 hz1 hz2 rfl (by omega) (.slice lA lm lc) lm gs rfl ((ownsRow_ext HLp.out.own ((HE1.out.trans HE2.out).trans HE3.out)).alloc _) ⟨w3.heap.size, 0, none⟩ 1 1 [.nilIface, .iface gt2 gv2] rfl rfl (World.news_of_block (heap_alloc_new w3 _)) (by simp [Value.oneCell']) (by omega) (by unfold maxLen; omega) (by omega) (by simp; omega) (w3.heap.size + 1) (by simp) ?_; intro gg cap1 w4 hown3 hgrow hat hltg)
    have hB3 := blk_grow HB1r.out (HE1.out.trans HE2.out) HE3.out hgrow (fun k hk => by have := (own_block HLp.out.own hk).1; omega)
    have hB4 := blk_grow HB2r.out (HE1.out.trans HE2.out) HE3.out hgrow (fun k hk => by have := (own_block HLp.out.own hk).1; omega)
    have HB3 := Lib.hid hB3
    have HB4 := Lib.hid hB4
    have hsz3 : w3.heap.size + 1 ≤ w4.heap.size := by have := hgrow.size; simpa using this
    have hstep := ploop_step HLp.out Hkx.out Hky.out HE1.out HE2.out HE3.out HG.out HG2.out hown3 hgrow hat
    have Hstep := Lib.hid hstep
    clear hstep hown3 hgrow hat hB3 hB4
    go_wp2_with fail
    go_roundw
    case rel => exact ⟨lm + 1, _, by go_num, Hstep.out, HB3.out, HB4.out, by have := HE1.out.size; omega⟩
    case measure => simp [intOf]; omega
   ·subst hGf
    subst hGf2
    go_wp2_with (at_builtin; refine wpList_append_lies _ rfl _ _ _ rfl (w.heap.size + 2) 150 i0 _ 2 32 Tryz.underlying148 hi0 hz0 hz1 hz2 rfl (by omega) (.slice lA lm lc) lm gs rfl ((ownsRow_ext HLp.out.own ((HE1.out.trans HE2.out).trans HE3.out)).alloc _) ⟨w3.heap.size, 0, none⟩ 1 1 [.iface gt gv, .nilIface] rfl rfl (World.news_of_block (heap_alloc_new w3 _)) (by simp [Value.oneCell']) (by omega) (by unfold maxLen; omega) (by omega) (by simp; omega) (w3.heap.size + 1) (by simp) ?_; intro gg cap1 w4 hown3 hgrow hat hltg)
    have hB3 := blk_grow HB1r.out (HE1.out.trans HE2.out) HE3.out hgrow (fun k hk => by have := (own_block HLp.out.own hk).1; omega)
    have hB4 := blk_grow HB2r.out (HE1.out.trans HE2.out) HE3.out hgrow (fun k hk => by have := (own_block HLp.out.own hk).1; omega)
    have HB3 := Lib.hid hB3
    have HB4 := Lib.hid hB4
    have hsz3 : w3.heap.size + 1 ≤ w4.heap.size := by have := hgrow.size; simpa using this
    have hstep := ploop_step HLp.out Hkx.out Hky.out HE1.out HE2.out HE3.out HG.out HG2.out hown3 hgrow hat
    have Hstep := Lib.hid hstep
    clear hstep hown3 hgrow hat hB3 hB4
    go_wp2_with fail
    go_roundw
    case rel => exact ⟨lm + 1, _, by go_num, Hstep.out, HB3.out, HB4.out, by have := HE1.out.size; omega⟩
    case measure => simp [intOf]; omega
   ·subst hGf
    subst hGf2
    go_wp2_with (at_builtin; refine wpList_append_lies _ rfl _ _ _ rfl (w.heap.size + 2) 150 i0 _ 2 32 Tryz.underlying148 hi0 hz0 hz1 hz2 rfl (by omega) (.slice lA lm lc) lm gs rfl ((ownsRow_ext HLp.out.own ((HE1.out.trans HE2.out).trans HE3.out)).alloc _) ⟨w3.heap.size, 0, none⟩ 1 1 [.iface gt gv, .iface gt2 gv2] rfl rfl (World.news_of_block (heap_alloc_new w3 _)) (by simp [Value.oneCell']) (by omega) (by unfold maxLen; omega) (by omega) (by simp; omega) (w3.heap.size + 1) (by simp) ?_; intro gg cap1 w4 hown3 hgrow hat hltg)
    have hB3 := blk_grow HB1r.out (HE1.out.trans HE2.out) HE3.out hgrow (fun k hk => by have := (own_block HLp.out.own hk).1; omega)
    have hB4 := blk_grow HB2r.out (HE1.out.trans HE2.out) HE3.out hgrow (fun k hk => by have := (own_block HLp.out.own hk).1; omega)
    have HB3 := Lib.hid hB3
    have HB4 := Lib.hid hB4
    have hsz3 : w3.heap.size + 1 ≤ w4.heap.size := by have := hgrow.size; simpa using this
    have hstep := ploop_step HLp.out Hkx.out Hky.out HE1.out HE2.out HE3.out HG.out HG2.out hown3 hgrow hat
    have Hstep := Lib.hid hstep
    clear hstep hown3 hgrow hat hB3 hB4
    go_wp2_with fail
    go_roundw
    case rel => exact ⟨lm + 1, _, by go_num, Hstep.out, HB3.out, HB4.out, by have := HE1.out.size; omega⟩
    case measure => simp [intOf]; omega
  ·obtain rfl : lm = V.keys.length := by omega
   obtain ⟨b0, b1, b2⟩ := HB1r.out.c3
   have hd9 : wr.cell? ⟨w.heap.size + 1, 9, none⟩ = some (.slice A1 V.keys.length c1) := HB2r.out.cell 9
   have hd10 : wr.cell? ⟨w.heap.size + 1, 10, none⟩ = some (.slice A2 V.kids.length c2) := HB2r.out.cell 10
   have hlI : (V.keys.length : Int) = V.kids.length := by have := Hkl.out; omega
   go_wp2_with fail
   go_quiet (fail)
   go_wp2_with fail
   go_ret2
   obtain ⟨A', c', hlv, e1, e2, e3, e4, e5⟩ := HLp.out.last ((Ext.refl wr).drewN nq)
   injection hlv with a1 a2 a3
   subst a1
   subst a3
   have hex : Ext w (wr.drewN nq) := HLp.out.ext.drewN nq
   refine ⟨_, rfl, .inr ⟨HN.out, .inr (.inr (.inl ⟨Hkind.out, _, _, gs, rfl, e1, e2, e3, e4, fun j a b ha hb => ?_⟩))⟩, hex⟩
   obtain ⟨g, g', f1, f2, f3, f4⟩ := e5 j a b ha hb
   rw [getD_of Hkt.out, getD_of Hmt.out]
   exact ⟨g, g', f1, f2, f3, f4⟩
end Go.Proofs.YtammjbmfiakbnaaGreatDoor
namespace Go.Proofs.YtammjbmfiakbnaaGreatDoor
open Go.RowKit
abbrev RV : Value → Option (DataW Value × List MemPlace) := fun v => some (.held v, [])
abbrev kl (s : ByteArray) : Lit := .string s.data.toList
theorem kl_key (s : ByteArray) : WideAt.IsKeyLit (kl s) := by simp [WideAt.IsKeyLit]
theorem kl_of (s : ByteArray) (hs : s.size ≤ maxLen) : keyOf Tryz.prog 9 (.string s) = some (kl s) := by
 have u := Tryz.underlying9
 simp [keyOf, mapKey, u, hs]
theorem kl_inj {s t : ByteArray} (h : kl s = kl t) : s = t := by
 injection h with h
 cases s with
 |mk a => cases t with
  |mk b => exact congrArg ByteArray.mk (Array.toList_inj.1 h)
/-- What the map holds so far. -/
structure ULp (D : DataW Value) (ns : List ByteArray) (i : Nat) (gs : List Value) : Prop where
 tidy : Maps.Tidy D
 size : Maps.size D = i
 got : ∀ (j : Nat) (s : ByteArray) (g : Value), j < i → ns[j]? = some s → gs[j]? = some g → Maps.has D (kl s) = true ∧ ∀ z, D.atKey (kl s) z = .held g
 not : ∀ (j : Nat) (s : ByteArray), i ≤ j → ns[j]? = some s → Maps.has D (kl s) = false
theorem ULp.start (ns : List ByteArray) : ULp (.map []) ns 0 [] := ⟨Maps.tidy_empty, rfl, fun j s g hj => by omega, fun j s _ _ => rfl⟩
theorem ULp.step {D : DataW Value} {ns : List ByteArray} {i : Nat} {gs : List Value} (h : ULp D ns i gs) (hnd : ns.Nodup) {s : ByteArray} (hs : ns[i]? = some s) (hl : gs.length = i) (g : Value) : ULp (D.put (kl s) (.held g)) ns (i + 1) (gs ++ [g]) := by
 have ne : ∀ (j : Nat) (t : ByteArray), j ≠ i → ns[j]? = some t → kl t ≠ kl s := fun j t hj ht e => by
  have e := kl_inj e
  subst e
  obtain ⟨h1, h2⟩ := List.getElem?_eq_some_iff.1 ht
  obtain ⟨h3, h4⟩ := List.getElem?_eq_some_iff.1 hs
  have hp := List.pairwise_iff_getElem.1 hnd
  rcases Nat.lt_or_gt_of_ne hj with hlt | hlt
  ·exact hp j i h1 h3 hlt (h2.trans h4.symm)
  ·exact hp i j h3 h1 hlt (h4.trans h2.symm)
 refine ⟨h.tidy.put (kl_key s) _, ?_, fun j t g' hj ht hg => ?_, fun j t hj ht => ?_⟩
 ·rw [Maps.size_put h.tidy, h.not i s (Nat.le_refl _) hs, h.size]
  rfl
 ·by_cases hji : j = i
  ·subst hji
   rw [hs] at ht
   injection ht with ht
   subst ht
   rw [List.getElem?_append_right (by omega)] at hg
   simp [hl] at hg
   subst hg
   exact ⟨Maps.has_put_same h.tidy.isMap (kl_key s) _, fun z => Maps.atKey_put_same h.tidy.isMap (kl_key s) _ z⟩
  ·rw [List.getElem?_append_left (by omega)] at hg
   obtain ⟨a, b⟩ := h.got j t g' (by omega) ht hg
   exact ⟨by rw [Maps.has_put_other (ne j t hji ht)]; exact a, fun z => by rw [Maps.atKey_put_other (ne j t hji ht)]; exact b z⟩
 ·rw [Maps.has_put_other (ne j t (by omega) ht)]
  exact h.not j t (by omega) ht
theorem ULp.mapR {D : DataW Value} {ns : List ByteArray} {i : Nat} {gs : List Value} (h : ULp D ns i gs) {X : Nat → Prop} {w : World} {b n : Nat} (hX : ¬ X b) (ho : w.ownsMap Tryz.prog 9 RV b n D) (hi : gs.length ≤ i) (hsz : ∀ s ∈ ns, s.size ≤ maxLen) : MapR X w b ns gs := by
 refine ⟨hX, ho.lt, fun j s g hs hg W hW => ?_⟩
 have hoW : W.ownsMap Tryz.prog 9 RV b n D := by
  obtain ⟨es, clock, hb, r⟩ := ho
  exact ⟨es, clock, hW.trans hb, r⟩
 obtain ⟨v, ps, hrun, hv⟩ := hoW.look_ok (Maps.string_keyed Tryz.underlying9) Tryz.underlying152 (z := .nilIface) (by kernel_rfl) (zd := .held .nilIface) (zp := []) rfl (kl_of s (hsz s (List.mem_of_getElem? hs)))
 obtain ⟨a, b'⟩ := h.got j s g (by have := (List.getElem?_eq_some_iff.1 hg).1; omega) hs hg
 rw [a] at hrun
 rw [b'] at hv
 have e : v = g := by
  have e1 := congrArg (Option.map Prod.fst) hv
  simpa using e1
 rw [e] at hrun
 exact hrun
end Go.Proofs.YtammjbmfiakbnaaGreatDoor
namespace Go.Proofs.YtammjbmfiakbnaaGreatDoor
open Go.RowKit
/-- What several's loop keeps, beside the map. -/
structure MLoop (n : Nat) (F : Nat → Ty) (ks : List Vl) (w wr : World) (i : Nat) (lv : Value) (gs : List Value) : Prop where
 le : i ≤ ks.length
 ext : Ext w wr
 own : wr.ownsRow (w.heap.size + 2) 20 1 lv i gs
 kids : ∀ (j : Nat) (k : Vl), j < i → ks[j]? = some k → ∃ g, gs[j]? = some g ∧ GivenAt (XI (Bel (w.heap.size + 1 + 1 + 1 + 1)) lv) n wr g (F j) k
theorem mloop_step {n : Nat} {F : Nat → Ty} {ks : List Vl} {w wr W1 w2 w3 : World} {i gg cap : Nat} {lv g : Value} {gs : List Value} {ob : Obj} {k : Vl}
  (L : MLoop n F ks w wr i lv gs) (h4 : w.heap.size + 1 + 1 + 1 + 1 ≤ wr.heap.size) (hi : ks[i]? = some k) (hE1 : Ext wr W1) (hE2 : Ext W1 w2) (hG : GivenAt (Bel W1.heap.size) n w2 g (F i) k)
  (hown : w3.ownsRow (w.heap.size + 2) 20 1 (.slice (some ⟨gg, 0, none⟩) (i + 1) cap) (i + 1) (gs ++ [g])) (hgrow : (w2.alloc ob).grownBy w3 lv.ownBlock) (hat : lv.ownBlock = some gg ∨ gg = w2.heap.size + 1) :
  MLoop n F ks w w3 (i + 1) (.slice (some ⟨gg, 0, none⟩) (i + 1) cap) (gs ++ [g]) := by
 have hlt := (List.getElem?_eq_some_iff.1 hi).1
 have hlen : gs.length = i := by have := L.own.1; omega
 have hI : GivenAt (XI (Bel (w.heap.size + 1 + 1 + 1 + 1)) lv) n w2 g (F i) k := (GivenAt.rel n g (F i) k).weak _ _ _ (fun b hb => by
  rcases hb with hb | hb
  ·exact .inl (show b < W1.heap.size by have := hE1.size; have : b < w.heap.size + 1 + 1 + 1 + 1 := hb; omega)
  ·exact .inl (show b < W1.heap.size by have := (own_block L.own hb).2; have := hE1.size; omega)) hG
 refine ⟨by omega, ?_, hown, fun j t hj ht => ?_⟩
 ·exact (((L.ext.trans hE1).trans hE2).alloc ob).grown hgrow (fun k hk => by have := (own_block L.own hk).1; omega)
 ·by_cases hji : j = i
  ·subst hji
   rw [hi] at ht
   injection ht with ht
   subst ht
   exact ⟨g, by rw [List.getElem?_append_right (by omega)]; simp [hlen], (GivenAt.rel n _ _ _).grow hI hgrow hat⟩
  ·obtain ⟨g', hx, hi'⟩ := L.kids j t (by omega) ht
   exact ⟨g', by rw [List.getElem?_append_left (by omega)]; exact hx, (GivenAt.rel n _ _ _).grow ((GivenAt.rel n _ _ _).ext hi' (hE1.trans hE2)) hgrow hat⟩
theorem own_kept {w w' : World} {b0 n : Nat} {v : Value} {xs : List Value} {r : Option Nat} (h : w.ownsRow b0 20 1 v n xs) (hg : w.grownBy w' r) (hr : ∀ k, r = some k → v.ownBlock ≠ some k) : w'.ownsRow b0 20 1 v n xs := by
 obtain ⟨hl, h⟩ := h
 refine ⟨hl, ?_⟩
 rcases h with h | ⟨g, cap, cur, hv, hb, hg', hq⟩
 ·exact .inl h
 ·exact .inr ⟨g, cap, cur, hv, hb, (hg.block g (Array.getElem?_eq_some_iff.1 hg').1 (fun e => hr g e.symm (by rw [hv]; rfl))).trans hg', hq⟩
/-- The map is written. -/
theorem MLoop.turned {n : Nat} {F : Nat → Ty} {ks : List Vl} {w w3 w4 : World} {i : Nat} {lv : Value} {gs : List Value} (L : MLoop n F ks w w3 i lv gs) (hg : w3.grownBy w4 (some (w.heap.size + 1 + 1 + 1))) (hne : lv.ownBlock ≠ some (w.heap.size + 1 + 1 + 1)) : MLoop n F ks w w4 i lv gs := by
 refine ⟨L.le, L.ext.grown hg (fun k hk => by injection hk with hk; omega), own_kept L.own hg (fun k hk => by injection hk with hk; rw [← hk]; exact hne), fun j k hj hk => ?_⟩
 obtain ⟨g, h1, h2⟩ := L.kids j k hj hk
 refine ⟨g, h1, (GivenAt.rel n _ _ _).onx _ _ _ ⟨hg.size, fun b hb hx => hg.block b hb (fun e => ?_)⟩ h2⟩
 injection e with e
 exact hx (.inl (show b < w.heap.size + 1 + 1 + 1 + 1 by omega))
theorem map_ext {w w' : World} {b n : Nat} {D : DataW Value} (h : w.ownsMap Tryz.prog 9 RV b n D) (he : Ext w w') : w'.ownsMap Tryz.prog 9 RV b n D := by
 have hlt := h.lt
 obtain ⟨es, clock, hb, r⟩ := h
 exact ⟨es, clock, (he.block b hlt).trans hb, r⟩
theorem map_ne {w : World} {b n b0 m : Nat} {D : DataW Value} {v : Value} {xs : List Value} (h : w.ownsMap Tryz.prog 9 RV b n D) (ho : w.ownsRow b0 20 1 v m xs) : v.ownBlock ≠ some b := fun e => by
 obtain ⟨es, clock, hb, r⟩ := h
 rcases ho.2 with ⟨hv, _⟩ | ⟨g, cap, cur, hv, _, hg, _⟩
 ·rw [hv] at e; cases e
 ·rw [hv] at e
  have e : some g = some b := e
  injection e with e
  subst e
  rw [hg] at hb
  cases hb
theorem MLoop.last {n : Nat} {F : Nat → Ty} {ks : List Vl} {w wr w' : World} {lv : Value} {gs : List Value} (L : MLoop n F ks w wr ks.length lv gs) (he : Ext wr w') :
  gs.length = ks.length ∧ ∀ (j : Nat) (k : Vl), ks[j]? = some k → ∃ g, gs[j]? = some g ∧ GivenAt (Bel w.heap.size) n w' g (F j) k := by
 refine ⟨by have := L.own.1; omega, fun j k hk => ?_⟩
 obtain ⟨g, h1, h2⟩ := L.kids j k (List.getElem?_eq_some_iff.1 hk).1 hk
 exact ⟨g, h1, (GivenAt.rel n _ _ _).ext ((GivenAt.rel n _ _ _).weak _ _ _ (fun b hb => .inl (.inl (show b < w.heap.size + 1 + 1 + 1 + 1 by have : b < w.heap.size := hb; omega))) h2) he⟩
theorem name_at {X : Nat → Prop} {w : World} {A A' : Option Addr} {m : Nat} {c c' i : Nat} {T : Ty} {s : ByteArray} (h : TyAt X (m + 1) w (.agg #[.int .i64 T.kind, .slice A T.kids.length c, .slice A' T.names.length c']) T) (hs : T.names[i]? = some s) :
  ∃ b o, A' = some ⟨b, o, none⟩ ∧ b < w.heap.size ∧ w.cell? ⟨b, o + i, none⟩ = some (.string s) := by
 obtain ⟨A0, c0, A1, c1, cs, hv, -, -, -, -, -, hn, -⟩ := h
 simp only [Value.agg.injEq, Array.mk.injEq, List.cons.injEq, Value.slice.injEq, true_and, and_true] at hv
 obtain ⟨⟨rfl, rfl⟩, rfl, rfl⟩ := hv
 obtain ⟨b, o, e, hb, -, hc⟩ := hn (by intro e; rw [List.map_eq_nil_iff] at e; rw [e] at hs; simp at hs)
 exact ⟨b, o, e, hb, hc i _ (by rw [List.getElem?_map, hs]; rfl)⟩
theorem World.ownsMap.drewN' {w : World} {b n : Nat} {D : DataW Value} (h : w.ownsMap Tryz.prog 9 RV b n D) (m : Nat) : (w.drewN m).ownsMap Tryz.prog 9 RV b n D := h
theorem names_le {X : Nat → Prop} {w : World} {v : Value} {m : Nat} {T : Ty} (h : TyAt X (m + 1) w v T) : ∀ s ∈ T.names, s.size ≤ maxLen := by
 obtain ⟨A0, c0, A1, c1, cs, hv, -, -, -, -, h, -⟩ := h
 exact h
set_option maxRecDepth 100000 in
set_option maxHeartbeats 8000000 in
theorem sev_list48 (n : Nat) (hp : GivP n) (m m2 : Nat) (w : World) (tv : Value) (T : Ty) (vs : List Value) (V : Vl) (hT : TyAt (fun _ => False) m w tv T) (hV : VlAt (fun _ => False) m2 w vs V) (hG : Good (n + 1) T) (hn : V.sc.nul = false) (hg : GoodV (n + 1) T V) (hEo : EofAt w) (h : T.kind = 48) :
  Calls Tryz.prog 51 #[tv, .agg vs.toArray] w (GivPost (n + 1) T V w) := by
 obtain ⟨B, bc, B', bc', rfl⟩ := hT.form
 cases m2 with
 |zero => exact hV.elim
 |succ m2 =>
 cases m with
 |zero => exact hT.elim
 |succ m =>
 have hnm : T.names.length = T.kids.length ∧ T.names.Nodup := by
  rcases hG.2 with ⟨h', _⟩ | ⟨h', _⟩ | ⟨h', _⟩ | ⟨_, _, _, h1, h2⟩ | ⟨_, h', _⟩
  ·omega
  ·omega
  ·omega
  ·exact ⟨h1, h2⟩
  ·omega
 have hnl := hnm.1
 have Hnd := Lib.hid hnm.2
 have Hnl := Lib.hid hnl
 have Hnle := Lib.hid (names_le hT)
 clear hnm hnl
 have hgk : V.kids.length = T.kids.length ∧ ∀ (i : Nat) (t : Ty) (k : Vl), T.kids[i]? = some t → V.kids[i]? = some k → k.sc.nul = true ∨ GoodV n t k := by
  obtain ⟨-, h20, hg⟩ := hg
  rcases hg with ⟨h', _⟩ | ⟨h', _⟩ | ⟨h', _⟩ | ⟨_, _, hl, hall⟩
  ·omega
  ·omega
  ·omega
  ·refine ⟨hl, fun i t k ht hk => ?_⟩
   rcases hall i t k ht hk with h' | ⟨_, h', _⟩
   ·exact .inr h'
   ·exact .inl h'
 obtain ⟨hlen, hgk⟩ := hgk
 have h20 : V.kids.length ≤ 20 := hg.2.1
 have Hgk := Lib.hid hgk
 have HTT := Lib.hid hT
 have hkg : ∀ k ∈ T.kids, Good n k := hG.1
 have Hkg' := Lib.hid hkg
 have h32 : T.kind = 48 := h
 have H32 := Lib.hid h32
 have Hlen := Lib.hid hlen
 obtain ⟨F, hF⟩ : ∃ F : Nat → Ty, F = fun j => T.kids.getD j Ty.bad := ⟨_, rfl⟩
 have HF := Lib.hid hF
 clear hgk hkg hlen h32 hF
 obtain ⟨A, c, A1, c1, A2, c2, rfl, q1, q2, q3, q4, q5, q6, hs, hd, hrow1, hrow⟩ := hV
 have HR := Lib.hid hrow
 have HR1 := Lib.hid hrow1
 have Hp := Lib.hid hp
 have HEo := Lib.hid hEo
 have HN := Lib.hid hn
 obtain ⟨i0, hi0, hz0, hz1, hz2⟩ := info_parts info20
 clear hT hs hG hd hg hrow hrow1 hp hEo hn
 simp only [vcells]
 rw [h]
 have Hkind := Lib.hid h
 clear h
 unfold maxLen at q2 q4 q6
 have hmm : ∀ W : World, (Instr.makeMap 152 none).run Tryz.prog W = .ok (.map (some W.heap.size)) (W.alloc (.map #[] 0)) := fun _ => rfl
 go_enter Tryz.func51, Tryz.ntmps51
 go_wp2_with fail
 clear hmm
 generalize hW : World.alloc (World.alloc (World.alloc (World.alloc w _) _) _) _ = W
 have h0 : Blk W w.heap.size 25 #[.int .i64 48, .slice B T.kids.length bc, .slice B' T.names.length bc'] ∧ Blk W (w.heap.size + 1) 30 #[.bool V.sc.nul, .int .i64 V.sc.n, .float .f64 V.sc.f, .string V.sc.text, .slice A V.sc.data.length c, .int .i64 V.sc.scale, .int .i64 V.sc.months, .int .i64 V.sc.days, .int .i64 V.sc.nanos, .slice A1 V.keys.length c1, .slice A2 V.kids.length c2] ∧ W.heap[w.heap.size + 1 + 1]? = some (.cells #[] 20 (0, 0)) ∧ Ext w W ∧ W.ownsMap Tryz.prog 9 RV (w.heap.size + 1 + 1 + 1) 0 (.map []) ∧ W.heap.size = w.heap.size + 1 + 1 + 1 + 1 := by
  rw [← hW]
  exact ⟨(((Blk.new w 25 _).alloc _).alloc _).alloc _, ((Blk.new' _ _ 30 _ (by simp)).alloc _).alloc _, (Blk.new' _ _ 20 _ (by simp)).alloc _, ((((Ext.refl w).alloc _).alloc _).alloc _).alloc _, (by have := World.ownsMap_made (H := Value) ((((w.alloc (.cells #[.int .i64 48, .slice B T.kids.length bc, .slice B' T.names.length bc'] 25)).alloc (.cells #[.bool V.sc.nul, .int .i64 V.sc.n, .float .f64 V.sc.f, .string V.sc.text, .slice A V.sc.data.length c, .int .i64 V.sc.scale, .int .i64 V.sc.months, .int .i64 V.sc.days, .int .i64 V.sc.nanos, .slice A1 V.keys.length c1, .slice A2 V.kids.length c2] 30)).alloc (.cells #[] 20))) Tryz.prog 9 RV; simpa using this), by simp⟩
 clear hW
 obtain ⟨hb1, hb2, hl0, hE, hM0, hWs⟩ := h0
 have HM0 := Lib.hid hM0
 clear hM0
 have HE := Lib.hid hE
 have HB1 := Lib.hid hb1
 have HB2 := Lib.hid hb2
 have HL0 := Lib.hid hl0
 have hlt1 := hb1.lt
 have hlt2 := hb2.lt
 clear hb1 hb2 hl0 hE
 obtain ⟨b0, b1, b2⟩ := HB1.out.c3
 obtain ⟨d0, d1, d2, d3, d4, d5, d6, d7, d8, d9, d10⟩ := HB2.out.c11
 clear b0 b1 b2 d0 d1 d2 d3 d4 d5 d6 d7 d8 d9 d10
 have hi30 := info30s
 go_loopw [13, 92] (fun lv v wr => ∃ (i : Nat) (gs : List Value), v = .int .i64 i ∧ MLoop n F V.kids w wr i lv gs ∧ (∃ D, wr.ownsMap Tryz.prog 9 RV (w.heap.size + 1 + 1 + 1) i D ∧ ULp D T.names i gs) ∧ Blk wr w.heap.size 25 #[.int .i64 48, .slice B T.kids.length bc, .slice B' T.names.length bc'] ∧ Blk wr (w.heap.size + 1) 30 #[.bool V.sc.nul, .int .i64 V.sc.n, .float .f64 V.sc.f, .string V.sc.text, .slice A V.sc.data.length c, .int .i64 V.sc.scale, .int .i64 V.sc.months, .int .i64 V.sc.days, .int .i64 V.sc.nanos, .slice A1 V.keys.length c1, .slice A2 V.kids.length c2] ∧ w.heap.size + 1 + 1 + 1 + 1 ≤ wr.heap.size) (fun _ v _ => V.kids.length - (intOf v).toNat)
 case atStart => exact ⟨0, [], rfl, ⟨Nat.zero_le _, HE.out, fresh_rowE HL0.out (by omega), fun j k hj => by omega⟩, ⟨_, HM0.out, ULp.start _⟩, HB1.out, HB2.out, by omega⟩
 case round =>
  obtain ⟨i, gs, rfl, hL, ⟨D, hM, hU⟩, hB1r, hB2r, hszr⟩ := hrel
  have HM := Lib.hid hM
  have HU := Lib.hid hU
  clear hM hU
  obtain ⟨lA, lc, rfl, hlc⟩ := ownB_slice hL.own
  have hi := hL.le
  have HLp := Lib.hid hL
  have HB1r := Lib.hid hB1r
  have HB2r := Lib.hid hB2r
  clear hL hB1r hB2r
  by_cases hlti : (i : Int) < V.kids.length
  ·have hi' : i < V.kids.length := by omega
   have hki : V.kids[i]? = some V.kids[i] := List.getElem?_eq_getElem hi'
   have hi'' : i < T.kids.length := by have := Hlen.out; omega
   have hkt : T.kids[i]? = some T.kids[i] := List.getElem?_eq_getElem hi''
   have Hkg := Lib.hid (Hkg'.out _ (List.getElem_mem hi''))
   have Hgkv := Lib.hid (Hgk.out i _ _ hkt hki)
   have hlt3 : (i : Int) < T.kids.length := by omega
   generalize T.kids[i] = kt at hkt Hkg Hgkv
   have hin : i < T.names.length := by have := Hnl.out; omega
   have hlt4 : (i : Int) < T.names.length := by omega
   have hns : T.names[i]? = some T.names[i] := List.getElem?_eq_getElem hin
   have Hsn := Lib.hid (Hnle.out T.names[i] (List.getElem_mem hin))
   generalize T.names[i] = sn at hns Hsn
   obtain ⟨nb, no, hnB, hnb, hcn⟩ := name_at HTT.out hns
   subst hnB
   have Hcn := Lib.hid hcn
   have Hns := Lib.hid hns
   clear hcn hns hin
   have HT := Lib.hid (tkid_at HTT.out hkt)
   have HFi : Hid (F i = kt) := Lib.hid (by rw [HF.out]; exact getD_of hkt)
   clear hkt
   obtain ⟨b, o, xA, xc, xA1, xc1, xA2, xc2, hA, hb, hx, hrg⟩ := kid_at HR.out hki
   generalize V.kids[i] = kv at hki hx hrg Hgkv
   subst hA
   have hEx : Ext w wr := HLp.out.ext
   have HK := Lib.hid (VlAt.onx (Onx.of_ext hEx _) _ _ _ hx)
   have HX := Lib.hid hEx
   have hrange : wr.rangeAt b (o + i * 11) (vcells kv.sc xA xc xA1 kv.keys.length xc1 xA2 kv.kids.length xc2) := fun j u hu => hEx.cellS (hrg j u hu)
   have Hrange := Lib.hid hrange
   have Hki := Lib.hid hki
   clear hx hki hEx hrg hrange
   go_upto_region 19 with fail
   refine wp_region_lit ?_
   iterate 2 (refine wpList_plain rfl (fun K hK => ?_); go_simp; refine hK _ _ ?_; clear hK K; try simp only [aP, aN, aT, aZ, aS])
   refine wpList_load_mid rfl 30 _ rfl b (o + i * 11) (by rfl) (vcells kv.sc xA xc xA1 kv.keys.length xc1 xA2 kv.kids.length xc2) _ Hrange.out Tryz.underlying30 rfl hi30 ?_
   try simp only [aP, aN, aT, aZ, aS]
   iterate 2 (refine wpList_plain rfl (fun K hK => ?_); go_simp; refine hK _ _ ?_; clear hK K; try simp only [aP, aN, aT, aZ, aS])
   refine wpList_store_mid rfl 30 _ _ rfl wr.heap.size 0 (vcells kv.sc xA xc xA1 kv.keys.length xc1 xA2 kv.kids.length xc2).toArray (by rfl) (by rfl) ((Blk.new wr 30 #[.bool false, .int .i64 0, .float .f64 0, .string ⟨#[]⟩, .slice none 0 0, .int .i64 0, .int .i64 0, .int .i64 0, .int .i64 0, .slice none 0 0, .slice none 0 0]).there rfl) hi30 (by simp [vcells, Value.oneCell']) ?_
   generalize hW1 : World.setCells _ _ _ _ = W1
   have hB1 : Blk W1 wr.heap.size 30 (vcells kv.sc xA xc xA1 kv.keys.length xc1 xA2 kv.kids.length xc2).toArray := by
    rw [← hW1]
    exact Blk.setCells (Blk.new wr 30 #[.bool false, .int .i64 0, .float .f64 0, .string ⟨#[]⟩, .slice none 0 0, .int .i64 0, .int .i64 0, .int .i64 0, .int .i64 0, .slice none 0 0, .slice none 0 0]) rfl
   have hE1 : Ext wr W1 := by
    rw [← hW1]
    exact setCells_ext (Nat.le_refl _) _ _ _ ((Ext.refl wr).alloc _)
   have HE1 := Lib.hid hE1
   have hltK := hB1.lt
   have HB9 := Lib.hid hB1
   obtain ⟨b0, b1, b2⟩ := (HB1r.out.ext hE1).c3
   clear hW1 hB1 hE1
   go_upto_region 25 with fail
   obtain ⟨tb, tx, yA, yc, yA', yc', hB, htb, hty, g0, g1, g2⟩ := HT.out
   subst hB
   have hx1 : Ext w W1.drew := (HX.out.trans HE1.out).drew
   have hcall := Hp.out m m2 W1.drew _ kt _ kv (TyAt.onx (Onx.of_ext hx1 _) _ _ _ hty) (VlAt.onx (Onx.of_ext HE1.out.drew _) _ _ _ HK.out) Hkg.out Hgkv.out (HEo.out.ext hx1)
   have Hcall := Lib.hid hcall
   have hS : W1.drew.cell? ⟨w.heap.size, 1, none⟩ = some (.slice (some ⟨tb, tx, none⟩) T.kids.length bc) ∧ W1.drew.cell? ⟨tb, tx + i * 3, none⟩ = some (.int .i64 kt.kind) ∧ W1.drew.cell? ⟨tb, tx + i * 3 + 1, none⟩ = some (.slice yA kt.kids.length yc) ∧ W1.drew.cell? ⟨tb, tx + i * 3 + 2, none⟩ = some (.slice yA' kt.names.length yc') ∧ W1.drew.rangeAt wr.heap.size 0 (vcells kv.sc xA xc xA1 kv.keys.length xc1 xA2 kv.kids.length xc2) :=
    ⟨(HB1r.out.ext HE1.out.drew).cell 1, hx1.cellS g0, hx1.cellS g1, hx1.cellS g2, Blk.range (HB9.out.ext ((Ext.refl W1).drew))⟩
   have HS := Lib.hid hS
   clear hcall hS hx1 hty g0 g1 g2 b0 b1 b2
   refine wp_region_K (fun w' => w'.cell? ⟨w.heap.size, 1, none⟩ = some (.slice (some ⟨tb, tx, none⟩) T.kids.length bc) ∧ w'.cell? ⟨tb, tx + i * 3, none⟩ = some (.int .i64 kt.kind) ∧ w'.cell? ⟨tb, tx + i * 3 + 1, none⟩ = some (.slice yA kt.kids.length yc) ∧ w'.cell? ⟨tb, tx + i * 3 + 2, none⟩ = some (.slice yA' kt.names.length yc') ∧ w'.rangeAt wr.heap.size 0 (vcells kv.sc xA xc xA1 kv.keys.length xc1 xA2 kv.kids.length xc2)) (ix [1, 4, 5]) 12 [false, false, false, false, false, false, false, false, false, false, false, false] (by kernel_rfl) rfl rfl ?_
   refine fV 0 (v := ?v25Lx0) rfl (by rfl) ?y25Lx0 ?_
   case y25Lx0 => intro w; go_simp; with_reducible rfl
   simp only [aP, aN, aT, aZ, aS]
   refine fV 2 (v := ?v25Lx2) rfl (by rfl) ?y25Lx2 ?_
   case y25Lx2 => intro w; go_simp; with_reducible rfl
   simp only [aP, aN, aT, aZ, aS]
   refine tV 1 (ix [3, 4, 6, 7, 8, 9, 10, 11]) (v := ?v25Lx1) rfl HS.out (by rfl) ?y25Lx1 ?_
   case y25Lx1 => rintro w ⟨s1, s2, s3, s4, s5⟩; go_simp; with_reducible rfl
   simp only [aP, aN, aT, aZ, aS]
   refine fV 3 (v := ?v25Lx3) rfl (by rfl) ?y25Lx3 ?_
   case y25Lx3 => intro w; go_simp; with_reducible rfl
   simp only [aP, aN, aT, aZ, aS]
   refine tV 4 (rg 6 11) (v := ?v25Lx4) rfl HS.out (by rfl) ?y25Lx4 ?_
   case y25Lx4 => rintro w ⟨s1, s2, s3, s4, s5⟩; go_simp; with_reducible rfl
   simp only [aP, aN, aT, aZ, aS]
   refine tG 5 (rg 6 11) rfl HS.out (yieldsIf_load_mid (by rfl) 30 _ rfl wr.heap.size 0 (by rfl) (vcells kv.sc xA xc xA1 kv.keys.length xc1 xA2 kv.kids.length xc2) _ (fun w' h => h.2.2.2.2) Tryz.underlying30 rfl hi30) ?_
   simp only [aP, aN, aT, aZ, aS]
   refine wpAnyK_oneg 6 (by kernel_rfl) rfl (by rfl) (fun K' hK => ?_)
   go_simp
   refine Hcall.out.mono ?_
   rintro e w2 ⟨G, rfl, hG, hE2⟩
   refine hK.out _ _ (fun h => absurd h (by decide)) ?_
   clear hK K'
   simp only [aP, aN, aT, aZ, aS]
   refine fV 7 (v := ?v25Lx7) rfl (by rfl) ?y25Lx7 ?_
   case y25Lx7 => intro w; go_simp; with_reducible rfl
   simp only [aP, aN, aT, aZ, aS]
   refine fV 8 (v := ?v25Lx8) rfl (by rfl) ?y25Lx8 ?_
   case y25Lx8 => intro w; go_simp; with_reducible rfl
   simp only [aP, aN, aT, aZ, aS]
   refine fV 9 (v := ?v25Lx9) rfl (by rfl) ?y25Lx9 ?_
   case y25Lx9 => intro w; go_simp; with_reducible rfl
   simp only [aP, aN, aT, aZ, aS]
   refine fV 10 (v := ?v25Lx10) rfl (by rfl) ?y25Lx10 ?_
   case y25Lx10 => intro w; go_simp; with_reducible rfl
   simp only [aP, aN, aT, aZ, aS]
   refine fV 11 (v := ?v25Lx11) rfl (by rfl) ?y25Lx11 ?_
   case y25Lx11 => intro w; go_simp; with_reducible rfl
   simp only [aP, aN, aT, aZ, aS]
   refine wpAnyK_done (by kernel_rfl) ?_ _
   have hE2' : Ext W1 w2 := (Ext.refl W1).drew.trans hE2
   have HE2 := Lib.hid hE2'
   have HG := Lib.hid hG
   have hsW : W1.heap.size ≤ w2.heap.size := hE2'.size
   obtain ⟨b0, b1, b2⟩ := ((HB1r.out.ext HE1.out).ext hE2').c3
   have hsw : w.heap.size ≤ w2.heap.size := (HX.out.trans (HE1.out.trans hE2')).size
   clear hE2 hE2' hG
   rcases HG.out.form with hGf | ⟨gt, gv, hGf⟩
   ·subst hGf
    go_wp2_with (first | (at_builtin; refine wpList_append_lies _ rfl _ _ _ rfl (w.heap.size + 2) 20 i0 _ 1 16 Tryz.underlying151 hi0 hz0 hz1 hz2 rfl (by omega) (.slice lA i lc) i gs rfl ((ownsRow_ext HLp.out.own (HE1.out.trans HE2.out)).alloc _) ⟨w2.heap.size, 0, none⟩ 1 1 [.nilIface] rfl rfl (World.news_of_block (heap_alloc_new w2 _)) (by simp [Value.oneCell']) (by omega) (by unfold maxLen; omega) (by omega) (by simp; omega) (w2.heap.size + 1) (by simp) ?_; intro gg cap1 w3 hown3 hgrow hat hltg; obtain ⟨b03, b13, b23⟩ := (blk_grow HB1r.out HE1.out HE2.out hgrow (fun k hk => by have := (own_block HLp.out.own hk).1; omega)).c3; have hstep := mloop_step HLp.out hszr Hki.out HE1.out HE2.out (by rw [HFi.out]; exact HG.out) hown3 hgrow hat; have cn3 := hstep.ext.cellS Hcn.out; have hm3 := ((map_ext (map_ext HM.out HE1.out) HE2.out).alloc _).kept hgrow (fun e => map_ne HM.out HLp.out.own e.symm)) | (at_mapUpdate; refine wpList_mapUpdate_own _ rfl _ _ _ 152 rfl 9 20 (Maps.string_keyed Tryz.underlying9) Tryz.underlying152 RV (w.heap.size + 1 + 1 + 1) i D rfl hm3 (by unfold maxLen; omega) (.string sn) (.nilIface) (kl sn) rfl rfl (kl_of sn Hsn.out) (.held (.nilIface)) [] rfl ?_; intro w4 hm4 hg4))
    have hB3 := blk_grow HB1r.out HE1.out HE2.out hgrow (fun k hk => by have := (own_block HLp.out.own hk).1; omega)
    have hB4 := blk_grow HB2r.out HE1.out HE2.out hgrow (fun k hk => by have := (own_block HLp.out.own hk).1; omega)
    have hsz3 : w2.heap.size + 1 ≤ w3.heap.size := by have := hgrow.size; simpa using this
    have hsz4 := hg4.size
    have hstep4 := hstep.turned hg4 (map_ne hm3 hown3)
    have hB3 : Blk w4 w.heap.size 25 _ := (hg4.block _ hB3.lt (by intro e; injection e with e; omega)).trans hB3
    have hB4 : Blk w4 (w.heap.size + 1) 30 _ := (hg4.block _ hB4.lt (by intro e; injection e with e; omega)).trans hB4
    have HB3 := Lib.hid hB3
    have HB4 := Lib.hid hB4
    have Hstep := Lib.hid hstep4
    have HM4 := Lib.hid hm4
    have HU4 := Lib.hid (HU.out.step Hnd.out Hns.out (by have := HLp.out.own.1; omega) (.nilIface))
    clear hstep hstep4 hown3 hgrow hat hB3 hB4 hm3 hm4 hg4 cn3
    go_wp2_with fail
    go_roundw
    case rel => exact ⟨i + 1, _, by go_num, Hstep.out, ⟨_, HM4.out, HU4.out⟩, HB3.out, HB4.out, by omega⟩
    case measure => simp [intOf]; omega
   ·subst hGf
    go_wp2_with (first | (at_builtin; refine wpList_append_lies _ rfl _ _ _ rfl (w.heap.size + 2) 20 i0 _ 1 16 Tryz.underlying151 hi0 hz0 hz1 hz2 rfl (by omega) (.slice lA i lc) i gs rfl ((ownsRow_ext HLp.out.own (HE1.out.trans HE2.out)).alloc _) ⟨w2.heap.size, 0, none⟩ 1 1 [.iface gt gv] rfl rfl (World.news_of_block (heap_alloc_new w2 _)) (by simp [Value.oneCell']) (by omega) (by unfold maxLen; omega) (by omega) (by simp; omega) (w2.heap.size + 1) (by simp) ?_; intro gg cap1 w3 hown3 hgrow hat hltg; obtain ⟨b03, b13, b23⟩ := (blk_grow HB1r.out HE1.out HE2.out hgrow (fun k hk => by have := (own_block HLp.out.own hk).1; omega)).c3; have hstep := mloop_step HLp.out hszr Hki.out HE1.out HE2.out (by rw [HFi.out]; exact HG.out) hown3 hgrow hat; have cn3 := hstep.ext.cellS Hcn.out; have hm3 := ((map_ext (map_ext HM.out HE1.out) HE2.out).alloc _).kept hgrow (fun e => map_ne HM.out HLp.out.own e.symm)) | (at_mapUpdate; refine wpList_mapUpdate_own _ rfl _ _ _ 152 rfl 9 20 (Maps.string_keyed Tryz.underlying9) Tryz.underlying152 RV (w.heap.size + 1 + 1 + 1) i D rfl hm3 (by unfold maxLen; omega) (.string sn) (.iface gt gv) (kl sn) rfl rfl (kl_of sn Hsn.out) (.held (.iface gt gv)) [] rfl ?_; intro w4 hm4 hg4))
    have hB3 := blk_grow HB1r.out HE1.out HE2.out hgrow (fun k hk => by have := (own_block HLp.out.own hk).1; omega)
    have hB4 := blk_grow HB2r.out HE1.out HE2.out hgrow (fun k hk => by have := (own_block HLp.out.own hk).1; omega)
    have hsz3 : w2.heap.size + 1 ≤ w3.heap.size := by have := hgrow.size; simpa using this
    have hsz4 := hg4.size
    have hstep4 := hstep.turned hg4 (map_ne hm3 hown3)
    have hB3 : Blk w4 w.heap.size 25 _ := (hg4.block _ hB3.lt (by intro e; injection e with e; omega)).trans hB3
    have hB4 : Blk w4 (w.heap.size + 1) 30 _ := (hg4.block _ hB4.lt (by intro e; injection e with e; omega)).trans hB4
    have HB3 := Lib.hid hB3
    have HB4 := Lib.hid hB4
    have Hstep := Lib.hid hstep4
    have HM4 := Lib.hid hm4
    have HU4 := Lib.hid (HU.out.step Hnd.out Hns.out (by have := HLp.out.own.1; omega) (.iface gt gv))
    clear hstep hstep4 hown3 hgrow hat hB3 hB4 hm3 hm4 hg4 cn3
    go_wp2_with fail
    go_roundw
    case rel => exact ⟨i + 1, _, by go_num, Hstep.out, ⟨_, HM4.out, HU4.out⟩, HB3.out, HB4.out, by omega⟩
    case measure => simp [intOf]; omega
  ·obtain rfl : i = V.kids.length := by omega
   obtain ⟨b0, b1, b2⟩ := HB1r.out.c3
   have hd9 := HB2r.out.cell 10
   have hlI : (V.kids.length : Int) = T.kids.length := by have := Hlen.out; omega
   have hd10 : wr.cell? ⟨w.heap.size + 1, 10, none⟩ = some (.slice A2 V.kids.length c2) := hd9
   clear hd9
   have hml := fun ty m => (World.ownsMap.drewN' HM.out m).len Tryz.underlying152 ty
   rw [HU.out.size] at hml
   go_wp2_with fail
   go_quiet (fail)
   go_wp2_with fail
   go_ret2
   obtain ⟨e3, e5⟩ := HLp.out.last ((Ext.refl wr).drewN nq)
   have hex : Ext w (wr.drewN nq) := HLp.out.ext.drewN nq
   refine ⟨_, rfl, .inr ⟨HN.out, .inr (.inr (.inr (.inr ⟨H32.out, _, gs, rfl, e3, HU.out.mapR (by show ¬ (w.heap.size + 1 + 1 + 1 < w.heap.size); omega) (World.ownsMap.drewN' HM.out nq) (by omega) Hnle.out, fun j t k ht hk => ?_⟩)))⟩, hex⟩
   obtain ⟨g, f1, f2⟩ := e5 j k hk
   have hFj : F j = t := by rw [HF.out]; exact getD_of ht
   rw [hFj] at f2
   exact ⟨g, f1, f2⟩
end Go.Proofs.YtammjbmfiakbnaaGreatDoor
namespace Go.Proofs.YtammjbmfiakbnaaGreatDoor
open Go.RowKit
theorem GivPost.weak {n : Nat} {T : Ty} {V : Vl} {w W : World} {e : Ending} {w' : World} (h : GivPost n T V W e w') (he : Ext w W) : GivPost n T V w e w' := by
 obtain ⟨G, h1, h2, h3⟩ := h
 exact ⟨G, h1, (GivenAt.rel n G T V).weak _ _ _ (fun b hb => .inl (show b < W.heap.size by have : b < w.heap.size := hb; have := he.size; omega)) h2, he.trans h3⟩
set_option maxRecDepth 100000 in
set_option maxHeartbeats 2000000 in
theorem given_hi (n m m2 : Nat) (w : World) (tv : Value) (T : Ty) (vs : List Value) (V : Vl) (hT : TyAt (fun _ => False) m w tv T) (hV : VlAt (fun _ => False) m2 w vs V) (hn : V.sc.nul = false) (hk : 32 ≤ T.kind)
  (H : ∀ W, Ext w W → Calls Tryz.prog 51 #[tv, .agg vs.toArray] W (GivPost n T V W)) :
  Calls Tryz.prog 26 #[tv, .agg vs.toArray] w (GivPost n T V w) := by
 obtain ⟨B, bc, B', bc', rfl⟩ := hT.form
 obtain ⟨A, c, A1, c1, A2, c2, rfl, -⟩ := hV.form
 have HH := Lib.hid H
 have HN := Lib.hid hn
 simp only [vcells] at HH ⊢
 rw [hn] at HH ⊢
 clear hT hV H hn
 have k1 : (T.kind == 1) = false := beq_eq_false_iff_ne.2 (by omega)
 have k2 : (T.kind == 2) = false := beq_eq_false_iff_ne.2 (by omega)
 have k3 : (T.kind == 3) = false := beq_eq_false_iff_ne.2 (by omega)
 have k4 : (T.kind == 4) = false := beq_eq_false_iff_ne.2 (by omega)
 have k5 : (T.kind == 5) = false := beq_eq_false_iff_ne.2 (by omega)
 have k6 : (T.kind == 6) = false := beq_eq_false_iff_ne.2 (by omega)
 have k7 : (T.kind == 7) = false := beq_eq_false_iff_ne.2 (by omega)
 have k8 : (T.kind == 8) = false := beq_eq_false_iff_ne.2 (by omega)
 have k9 : (T.kind == 9) = false := beq_eq_false_iff_ne.2 (by omega)
 have k11 : (T.kind == 11) = false := beq_eq_false_iff_ne.2 (by omega)
 have k12 : (T.kind == 12) = false := beq_eq_false_iff_ne.2 (by omega)
 have k13 : (T.kind == 13) = false := beq_eq_false_iff_ne.2 (by omega)
 have k14 : (T.kind == 14) = false := beq_eq_false_iff_ne.2 (by omega)
 have k15 : (T.kind == 15) = false := beq_eq_false_iff_ne.2 (by omega)
 have k16 : (T.kind == 16) = false := beq_eq_false_iff_ne.2 (by omega)
 have k17 : (T.kind == 17) = false := beq_eq_false_iff_ne.2 (by omega)
 have k18 : (T.kind == 18) = false := beq_eq_false_iff_ne.2 (by omega)
 have k19 : (T.kind == 19) = false := beq_eq_false_iff_ne.2 (by omega)
 have k20 : (T.kind == 20) = false := beq_eq_false_iff_ne.2 (by omega)
 have k21 : (T.kind == 21) = false := beq_eq_false_iff_ne.2 (by omega)
 generalize T.kind = k at *
 go_enter Tryz.func26, Tryz.ntmps26
 go_wp2_with fail
 refine (HH.out _ (((Ext.refl w).alloc _).alloc _)).mono ?_
 rintro e w1 h
 obtain ⟨G, rfl, h2, h3⟩ := h.weak (((Ext.refl w).alloc _).alloc _)
 have H2 := Lib.hid h2
 have H3 := Lib.hid h3
 clear h h2 h3
 go_wp2_with fail
 go_ret2
 exact ⟨G, rfl, H2.out, H3.out⟩
theorem given_any : ∀ n, GivP n
 |0 => fun m m2 w tv T vs V hT hV hG _ _ => hG.elim
 |n + 1 => fun m m2 w tv T vs V hT hV hG hg hE => by
  cases hn : V.sc.nul with
  |true => exact given_nul n m m2 w tv T vs V hT hV hn
  |false =>
   have hg' : GoodV (n + 1) T V := hg.resolve_left (by rw [hn]; exact Bool.false_ne_true)
   by_cases hk : T.kind < 32
   ·exact given_leaf n m m2 w tv T vs V hT hV hG hn hg' hk hE
   ·refine given_hi (n + 1) m m2 w tv T vs V hT hV hn (by omega) (fun W he => ?_)
    have hT' := TyAt.onx (Onx.of_ext he _) _ _ _ hT
    have hV' := VlAt.onx (Onx.of_ext he _) _ _ _ hV
    rcases kinds_hi hG.2 hk with h | h | h | h | h
    ·exact sev_list32 n (given_any n) m m2 W tv T vs V hT' hV' hG hn hg' (hE.ext he) h
    ·exact sev_map n (given_any n) m m2 W tv T vs V hT' hV' hG hn hg' (hE.ext he) h
    ·exact sev_list34 n (given_any n) m m2 W tv T vs V hT' hV' hG hn hg' (hE.ext he) h
    ·exact sev_list48 n (given_any n) m m2 W tv T vs V hT' hV' hG hn hg' (hE.ext he) h
    ·exact sev_list49 n (given_any n) m m2 W tv T vs V hT' hV' hG hn hg' (hE.ext he) h
end Go.Proofs.YtammjbmfiakbnaaGreatDoor
namespace Go.Proofs.YtammjbmfiakbnaaGreatDoor
open Go.RowKit
attribute [local go_sem ↓] Go.wp_at_zero Go.wp_at_succ
/-- Variable p of the writer's type holds a slice at block g, of the call's own (from block b0 on), that reads as l. -/
def WrG (w : World) (b0 p g : Nat) (l : List UInt8) : Prop :=
 b0 ≤ p ∧ ∃ c, Blk w p 70 #[.slice (some ⟨g, 0, none⟩) l.length c] ∧ w.ownsRow b0 5 1 (.slice (some ⟨g, 0, none⟩) l.length c) l.length (l.map byteV)
/-- Only the variable p and the row g are written; the row stays where it is, or is a new one. -/
structure FrameW (w w' : World) (p g g' : Nat) : Prop where
 os : w'.os = w.os
 tape : w'.tape = w.tape
 output : w'.output = w.output
 size : w.heap.size ≤ w'.heap.size
 rest : ∀ k, k < w.heap.size → k ≠ p → k ≠ g → w'.heap[k]? = w.heap[k]?
 row : g' = g ∨ w.heap.size ≤ g'
theorem FrameW.refl (w : World) (p g : Nat) : FrameW w w p g g := ⟨rfl, rfl, rfl, Nat.le_refl _, fun _ _ _ _ => rfl, .inl rfl⟩
theorem FrameW.trans {a b c : World} {p g g1 g2 : Nat} (h : FrameW a b p g g1) (k : FrameW b c p g1 g2) : FrameW a c p g g2 :=
 ⟨k.os.trans h.os, k.tape.trans h.tape, k.output.trans h.output, Nat.le_trans h.size k.size, fun i hi hp hg => (k.rest i (Nat.lt_of_lt_of_le hi h.size) hp (by have := h.row; omega)).trans (h.rest i hi hp hg),
  by have := h.row; have := k.row; have := h.size; omega⟩
theorem FrameW.of_ext {w w' : World} (h : Ext w w') (p g : Nat) : FrameW w w' p g g := ⟨h.os, h.tape, h.output, h.size, fun k hk _ _ => h.block k hk, .inl rfl⟩
theorem FrameW.below {w w' : World} {p g g' b0 : Nat} (h : FrameW w w' p g g') (hp : b0 ≤ p) (hg : b0 ≤ g) (hb : b0 ≤ w.heap.size) : Below b0 w w' :=
 ⟨h.os, h.tape, h.output, h.size, fun k hk => h.rest k (by omega) (by omega) (by omega)⟩
theorem WrG.row {w : World} {b0 p g : Nat} {l : List UInt8} (h : WrG w b0 p g l) : b0 ≤ p ∧ b0 ≤ g ∧ p < w.heap.size ∧ g < w.heap.size := by
 obtain ⟨h0, c, hb, ho⟩ := h
 have hl := hb.lt
 rcases ho.2 with ⟨h, _⟩ | ⟨g', cap, cur, hv, hb', hg, _⟩
 ·cases h
 ·injection hv with hv; injection hv with hv; injection hv with hv; subst hv
  refine ⟨h0, hb', hl, ?_⟩
  rcases Nat.lt_or_ge g w.heap.size with hl | hge
  ·exact hl
  ·rw [Array.getElem?_eq_none hge] at hg; cases hg
theorem WrG.ext {w w1 : World} {b0 p g : Nat} {l : List UInt8} (h : WrG w b0 p g l) (he : Ext w w1) : WrG w1 b0 p g l := by
 obtain ⟨h0, c, hb, ho⟩ := h
 exact ⟨h0, c, hb.ext he, ownsRow_ext ho he⟩
theorem WrG.wr {w : World} {b0 p g : Nat} {l : List UInt8} (h : WrG w b0 p g l) : Wr w b0 p l := ⟨h.1, g, h.2⟩
theorem frame_step {w w1 : World} {p g gg : Nat} {u : Value} (hgrow : w.grownBy w1 (some g)) (hat : some g = some gg ∨ w.heap.size ≤ gg) : FrameW w (w1.setCell ⟨p, 0, none⟩ u) p g gg :=
 ⟨hgrow.os, hgrow.tape, hgrow.output, by have := hgrow.size; simpa [World.setCell] using this, fun k hk hp hg => (Below.heap_setCell w1 ⟨p, 0, none⟩ u k hp).trans (hgrow.block k hk (by simpa using hg)), by
  rcases hat with h | h
  ·injection h with h; exact .inl h.symm
  ·exact .inr h⟩
theorem putx_step {w wr w1 : World} {b0 p g g0 gg cap cap1 : Nat} {c : List UInt8} {m : Int} (hbel : FrameW w wr p g0 g) (hb0 : b0 ≤ p) (hgp : g ≠ p) (hlt : p < wr.heap.size)
  (Hb : Blk wr p 70 #[.slice (some ⟨g, 0, none⟩) c.length cap]) (Ho : wr.ownsRow b0 5 1 (.slice (some ⟨g, 0, none⟩) c.length cap) c.length (c.map byteV)) (o : Obj)
  (hown1 : w1.ownsRow b0 5 1 (.slice (some ⟨gg, 0, none⟩) (c.length + 1) cap1) (c.length + 1) (c.map byteV ++ [.int .u8 (m % 256)]))
  (hgrow : ((wr.alloc o).drew).grownBy w1 (some g)) (hat : some g = some gg ∨ gg = wr.heap.size + 1) :
  WrG (w1.setCell ⟨p, 0, none⟩ (.slice (some ⟨gg, 0, none⟩) (c.length + 1) cap1)) b0 p gg (c ++ [bt m]) ∧ FrameW w (w1.setCell ⟨p, 0, none⟩ (.slice (some ⟨gg, 0, none⟩) (c.length + 1) cap1)) p g0 gg := by
 have hggp : gg ≠ p := by
  rcases hat with h | h
  ·injection h with h; omega
  ·omega
 have hw1 : Blk w1 p 70 #[.slice (some ⟨g, 0, none⟩) c.length cap] := (hgrow.block p (by simp; omega) (by simp; omega)).trans ((Hb.alloc o).drew)
 have hs := hw1.set_ 0 (.slice (some ⟨gg, 0, none⟩) (c.length + 1) cap1)
 refine ⟨⟨hb0, cap1, by simpa using hs, ?_⟩, ?_⟩
 ·obtain ⟨h1, h2⟩ := hown1
  refine ⟨by simp, ?_⟩
  rcases h2 with ⟨h, _⟩ | ⟨g', cap', cur, hv, hb, hg, r⟩
  ·cases h
  ·refine .inr ⟨g', cap', cur, by simpa using hv, hb, ?_, ?_⟩
   ·injection hv with hv; injection hv with hv; injection hv with hv; subst hv
    rw [Below.heap_setCell _ _ _ _ (by simpa using hggp)]
    exact hg
   ·simpa [byteV_bt] using r
 ·have h1 : FrameW wr (wr.alloc o).drew p g g := FrameW.of_ext ((Ext.refl wr).alloc o).drew p g
  exact (hbel.trans h1).trans (frame_step hgrow (by rcases hat with h | h; exact .inl h; exact .inr (by simp; omega)))
set_option maxRecDepth 100000 in
set_option maxHeartbeats 1600000 in
theorem put_x (n : Int) (k : Nat) (hk : k ≤ 8) (b0 p g0 : Nat) (l : List UInt8) (hl : l.length ≤ 1099511627776) (w : World) (h : WrG w b0 p g0 l) :
  Calls Tryz.prog 29 #[.pointer (some ⟨p, 0, none⟩), .int .i64 n, .int .i64 k] w fun e w' => e = .returned (.tuple #[]) ∧ ∃ g', WrG w' b0 p g' (l ++ beN n k) ∧ FrameW w w' p g0 g' := by
 obtain ⟨i0, hi0, hz0, hz1, hz2⟩ := info_parts info5
 have H := Lib.hid h
 clear h
 go_enter Tryz.func29, Tryz.ntmps29
 go_wp2_with fail
 go_loopw [6] (fun v wr => ∃ (j : Nat) (i : Int), j ≤ k ∧ i + 1 = j ∧ v = .int .i64 i ∧ ∃ (c : List UInt8) (g : Nat), c.length + j = l.length + k ∧ c ++ beN n j = l ++ beN n k ∧ WrG wr b0 p g c ∧ FrameW w wr p g0 g) (fun v _ => (intOf v + 1).toNat)
 case atStart => exact ⟨k, _, Nat.le_refl _, by omega, rfl, l, g0, rfl, rfl, H.out, FrameW.refl _ _ _⟩
 case round =>
  obtain ⟨j, i, hj, hi, rfl, c, g, hcl, hc, hwr, hbel⟩ := hrel
  cases j with
  |zero =>
   obtain rfl : i = -1 := by omega
   have Hwr := Lib.hid hwr
   have Hc := Lib.hid hc
   clear hwr hc hcl
   go_wp2_with fail
   go_end0
   have := Hc.out
   simp only [beN, List.append_nil] at this
   exact ⟨rfl, g, this ▸ Hwr.out, hbel⟩
  |succ j =>
   obtain rfl : i = (j : Int) := by omega
   obtain ⟨hb0, cap, hb, ho⟩ := hwr
   obtain ⟨c0, c1⟩ := hb.c1
   have hlt := hb.lt
   have hsh := shr_i64 n j (by omega)
   have hpw : n / 2 ^ (8 * (j : Int)).toNat = n / 256 ^ j := by rw [show (8 * (j : Int)).toNat = 8 * j by omega, Int.pow_mul]; rfl
   have hu8 : IntKind.u8.wrap (n / 256 ^ j) = n / 256 ^ j % 256 := by rw [IntKind.wrap_u8]
   have hnw := World.new_ne wr ⟨p, 0, none⟩ c0
   have hw8 : IntKind.i64.wrap (8 * (j : Int)) = 8 * (j : Int) := IntWalk.i64_in _ (by omega)
   have hgp : g ≠ p := by
    rcases ho.2 with ⟨h, _⟩ | ⟨g', _, _, h, _, hg, _⟩
    ·cases h
    ·injection h with h
     injection h with h
     injection h with h
     subst h
     exact Blk.ne (t := 5) hg hb (by decide)
   have Hb := Lib.hid hb
   have Ho := Lib.hid ho
   have Hc := Lib.hid hc
   have Hcl := Lib.hid hcl
   have hcb : c.length ≤ 1099511627776 + 8 := by omega
   clear hb ho hc hcl
   go_wp2_with fail
   go_region_law
    ((refine step_append_lies _ (by rfl) _ _ _ (by rfl) b0 5 i0 _ 1 1 Tryz.underlying70 hi0 hz0 hz1 hz2 rfl (by omega) (.slice (some ⟨g, 0, none⟩) c.length cap) c.length (c.map byteV) (by rfl) ((Ho.out.alloc _).drew) ⟨wr.heap.size, 0, none⟩ 1 1 [.int .u8 (n / 256 ^ j % 256)] (by rfl) (by rfl) (World.news_of_block (cs := #[.int .u8 (n / 256 ^ j % 256)]) (t := 5) (fr := (0, 0)) (heap_alloc_new wr _)) (by simp [Value.oneCell']) (by omega) (by unfold maxLen; omega) (by omega) (by simp; omega) (wr.heap.size + 1) (by simp) ?_; intro gg cap1 w1 hown1 hgrow hat hltg; have f1 : w1.frozen? ⟨p, 0, none⟩ = false := (hgrow.frozen_far ⟨p, 0, none⟩ (by simp; omega) (by simp [Value.ownBlock]; omega)).trans (((((Ext.refl wr).alloc _).drew).frozen hlt).trans c1); have k0 : w1.cell? ⟨p, 0, none⟩ = some (.slice (some ⟨g, 0, none⟩) c.length cap) := (hgrow.cell_far ⟨p, 0, none⟩ (by simp; omega) (by simp [Value.ownBlock]; omega)).trans (((((Ext.refl wr).alloc _).drew).cell hlt).trans c0)))
   all_goals
    go_wp2_with fail
    go_roundw
    case rel =>
     refine ⟨j, (j : Int) - 1, by omega, by omega, rfl, c ++ [bt (n / 256 ^ j)], _, ?_, ?_, putx_step hbel hb0 hgp hlt Hb.out Ho.out _ hown1 hgrow hat⟩
     ·have := Hcl.out
      simp; omega
     ·have := Hc.out
      rw [← this]
      simp [beN]
    case measure => simp [intOf]
theorem bytesx_step {w w1 : World} {b0 p g gg cap cap1 : Nat} {c l : List UInt8} (hb0 : b0 ≤ p) (hgp : g ≠ p) (hlt : p < w.heap.size) (hg0 : b0 ≤ g)  (hw : b0 ≤ w.heap.size)
  (Hb : Blk w p 70 #[.slice (some ⟨g, 0, none⟩) c.length cap])
  (hown1 : w1.ownsRow b0 5 1 (.slice (some ⟨gg, 0, none⟩) (c.length + l.length) cap1) (c.length + l.length) ((c ++ l).map byteV))
  (hgrow : w.grownBy w1 (some g)) (hat : some g = some gg ∨ gg = w.heap.size) :
  WrG (w1.setCell ⟨p, 0, none⟩ (.slice (some ⟨gg, 0, none⟩) (c.length + l.length) cap1)) b0 p gg (c ++ l) ∧ FrameW w (w1.setCell ⟨p, 0, none⟩ (.slice (some ⟨gg, 0, none⟩) (c.length + l.length) cap1)) p g gg := by
 have hggp : gg ≠ p := by
  rcases hat with h | h
  ·injection h with h; omega
  ·omega
 have hw1 : Blk w1 p 70 #[.slice (some ⟨g, 0, none⟩) c.length cap] := (hgrow.block p hlt (by simp; omega)).trans Hb
 have hs := hw1.set_ 0 (.slice (some ⟨gg, 0, none⟩) (c.length + l.length) cap1)
 refine ⟨⟨hb0, cap1, by simpa using hs, ?_⟩, ?_⟩
 ·obtain ⟨h1, h2⟩ := hown1
  refine ⟨by simp, ?_⟩
  rcases h2 with ⟨h, _⟩ | ⟨g', cap', cur, hv, hb, hg, r⟩
  ·cases h
  ·refine .inr ⟨g', cap', cur, by simpa using hv, hb, ?_, by simpa using r⟩
   injection hv with hv; injection hv with hv; injection hv with hv; subst hv
   rw [Below.heap_setCell _ _ _ _ (by simpa using hggp)]
   exact hg
 ·exact frame_step hgrow (by rcases hat with h | h; exact .inl h; exact .inr (by omega))
set_option maxRecDepth 100000 in
theorem bytes_x (b0 p g : Nat) (l m : List UInt8) (A : Option Addr) (n k : Nat) (hl : l.length ≤ 1099511627776) (hm : m.length ≤ 1099511627776) (w : World) (h : WrG w b0 p g l) (hb0 : b0 ≤ w.heap.size) (hv : Bytes w (.slice A n k) m) :
  Calls Tryz.prog 28 #[.pointer (some ⟨p, 0, none⟩), .slice A n k] w fun e w' => e = .returned (.tuple #[]) ∧ ∃ g', WrG w' b0 p g' (l ++ m) ∧ FrameW w w' p g g' := by
 obtain ⟨hp, cap, hb, ho⟩ := h
 obtain ⟨gg, cap1, w1, hrun, hown, hgrow, hat⟩ := append_wr 70 Tryz.underlying70 ho hb0 hv hl hm
 have hgp : g ≠ p ∧ b0 ≤ g := by
  rcases ho.2 with ⟨h, _⟩ | ⟨g', _, _, h, hb0, hg, _⟩
  ·cases h
  ·injection h with h
   injection h with h
   injection h with h
   subst h
   exact ⟨Blk.ne (t := 5) hg hb (by decide), hb0⟩
 obtain ⟨hgp, hg0⟩ := hgp
 obtain ⟨c0, c1⟩ := hb.c1
 have hlt := hb.lt
 have k0 : w1.cell? ⟨p, 0, none⟩ = some (.slice (some ⟨g, 0, none⟩) l.length cap) := (hgrow.cell_far ⟨p, 0, none⟩ (by simp; omega) (by simp; omega)).trans c0
 have f1 : w1.frozen? ⟨p, 0, none⟩ = false := (hgrow.frozen_far ⟨p, 0, none⟩ (by simp; omega) (by simp; omega)).trans c1
 have Hb := Lib.hid hb
 have Ho := Lib.hid ho
 have Hw := Lib.hid hown
 clear hb ho hv hown
 go_enter Tryz.func28, Tryz.ntmps28
 go_wp2_with (first | (at_builtin; refine wpList_append_eq rfl _ _ 70 27 rfl _ _ rfl rfl (fun ty => (append_types ty _ _ _).trans (hrun ty)) ?_))
 refine bodyPost_end (results_none rfl _ _ _) rfl ?_
 exact ⟨rfl, gg, bytesx_step hp hgp hlt hg0 hb0 Hb.out Hw.out hgrow hat⟩
end Go.Proofs.YtammjbmfiakbnaaGreatDoor
