/- A part of the proof that the card of laws.FnMarshal holds. No conditions. -/
import Derived.Test.YtammjbmfiakbnaaGreatDoorM14
import Derived.Deep.RegionWith
import Derived.Laws.CopyRow
set_option linter.unusedSimpArgs false
set_option linter.unusedVariables false
namespace Go.Proofs.YtammjbmfiakbnaaGreatDoor
open Go.RowKit
theorem and128 (a : UInt8) : bits .and .u8 (a.toNat : Int) 128 = if 128 ≤ a.toNat then 128 else 0 := by
 have key : ∀ n : Fin 256, bits .and .u8 ((n.val : Nat) : Int) 128 = if 128 ≤ n.val then 128 else 0 := by decide +kernel
 exact key ⟨a.toNat, a.toNat_lt⟩
set_option maxRecDepth 100000 in
theorem enc2_zero (B : Nat) (g : Bool) (z : Value) (w : World) (h : IntIn w B g z 0) :
  Calls Tryz.prog 84 #[.pointer (some ⟨B, 0, none⟩)] w fun e w' => ∃ r, e = .returned r ∧ (Out (tc 0) r w' ∧ New w r) ∧ Ext w w' := by
 rw [tc_zero]
 have hs := sign_any B g z 0 w h
 have Hs := Lib.hid hs
 clear hs h
 go_enter Tryz.func84, Tryz.ntmps84
 go_wp2_with fail
 refine Hs.out.mono ?_
 rintro e w1 ⟨rfl, rfl⟩
 go_wp2_with fail
 go_ret
 exact ⟨_, rfl, ⟨Out.of_blk (Blk.new _ _ _) (by decide) (by decide) rfl (by simp) (by simp [byteV]), ⟨_, _, _, _, rfl, Nat.le_refl _⟩⟩, (Ext.refl _).alloc _⟩
theorem addr_off (b o j : Nat) : (⟨b, o, none⟩ : Addr).add j = ⟨b, o + j, none⟩ := by unfold Addr.add; split <;> simp_all
theorem rawOut {w' : World} {g i c : Nat} {l : List UInt8} (hc : l.length ≤ c) (h : ∃ cs : List Value, w'.heap[g]? = some (.cells cs.toArray 5 (0, 0)) ∧ ∀ j u, (l.map byteV)[j]? = some u → cs[i + j]? = some u) : Out l (.slice (some ⟨g, i, none⟩) l.length c) w' := by
 obtain ⟨cs, h1, h2⟩ := h
 exact ⟨g, i, c, cs.toArray, 5, (0, 0), rfl, hc, h1, by decide, by decide, fun j u hu => by simpa using h2 j u hu⟩
set_option maxRecDepth 100000 in
set_option maxHeartbeats 1000000 in
theorem enc2_pos (B : Nat) (g : Bool) (z : Value) (n : Int) (hn : 0 < n) (w : World) (h : IntIn w B g z n) :
  Calls Tryz.prog 84 #[.pointer (some ⟨B, 0, none⟩)] w fun e w' => ∃ r, e = .returned r ∧ (Out (tc n) r w' ∧ New w r) ∧ Ext w w' := by
 have hs := sign_any B g z n w h
 rw [Int.sign_eq_one_of_pos hn] at hs
 have Hs := Lib.hid hs
 have Hb := Lib.hid (intBytes_any B g z n (by omega) w h)
 obtain ⟨i0, hi0, hz0, hz1, hz2⟩ := info_parts info5
 clear hs h
 go_enter Tryz.func84, Tryz.ntmps84
 go_wp2_with fail
 refine Hs.out.mono ?_
 rintro e w1 ⟨rfl, rfl⟩
 go_wp2_with fail
 refine Hb.out.mono ?_
 rintro e w2 ⟨a, b, gb, i, c, rfl, hc1, hc2, ha0, hv, hgb, hcs, hx⟩
 have hnv : tc n = if 128 ≤ a.toNat then 0 :: a :: b else a :: b := by
  rw [show n = ((beVal (a :: b) : Nat) : Int) by omega]
  exact tc_posB a b ha0
 have hO : Out (a :: b) (.slice (some ⟨gb, i, none⟩) (b.length + 1) c) w2 := rawOut (l := a :: b) hc1 hcs
 obtain ⟨b', o', c', e', hb', hlt', hcell⟩ := hO.form
 injection e' with e1 e2 e3
 injection e1 with e1
 injection e1 with e1 e4
 subst e1; subst e3; subst e4
 have hc0 : w2.cell? ⟨gb, i, none⟩ = some (.int .u8 a.toNat) := hcell 0 (byteV a) rfl
 have h128 := and128 a
 have HO := Lib.hid hO
 have HX := Lib.hid hx
 have Hcell := Lib.hid hcell
 have hbl : (b.length : Int) + 1 ≤ 800 := by omega
 by_cases h : 128 ≤ a.toNat
 ·rw [if_pos h] at h128 hnv
  have Hnv := Lib.hid hnv
  have hown : (w2.alloc (.cells #[.int .u8 0] 5)).ownsRow w2.heap.size 5 1 (.slice (some ⟨w2.heap.size, 0, none⟩) 1 1) 1 [.int .u8 0] :=
   ⟨rfl, .inr ⟨w2.heap.size, 1, _, rfl, Nat.le_refl _, Blk.new w2 5 _, Nat.le_refl _, by decide, rfl, rfl⟩⟩
  have hnews : ∀ j u, ((a :: b).map byteV)[j]? = some u → (w2.alloc (.cells #[.int .u8 0] 5)).cell? ((⟨gb, i, none⟩ : Addr).add j) = some u := fun j u hu => by
   rw [addr_off]
   exact ((Ext.refl w2).alloc _).cellS (Hcell.out j u hu)
  have hone : ∀ u ∈ (a :: b).map byteV, u.oneCell' = true := by intro u hu; simp only [List.mem_map] at hu; obtain ⟨y, _, rfl⟩ := hu; rfl
  have Hown := Lib.hid hown
  have Hnews := Lib.hid hnews
  have Hone := Lib.hid hone
  clear hv hcs hx hO hcell hnv h ha0 e2 hown hnews hone
  go_wp2_with (at_builtin; refine wpList_append_lies _ rfl _ _ _ rfl w2.heap.size 5 i0 _ 1 1 Tryz.underlying27 hi0 hz0 hz1 hz2 rfl (by omega) (.slice (some ⟨w2.heap.size, 0, none⟩) 1 1) 1 [.int .u8 0] rfl Hown.out ⟨gb, i, none⟩ (b.length + 1) c ((a :: b).map byteV) rfl (by simp) Hnews.out Hone.out (by omega) (by unfold maxLen; omega) (by omega) (by simp) (w2.heap.size + 1) (by simp) ?_; intro gg cap1 w3 hown3 hgrow hat hltg)
  have HX3 := Lib.hid ((HX.out.trans ((Ext.refl w2).alloc (.cells #[.int .u8 0] 5))).grown hgrow (fun k hk => by have hk : some w2.heap.size = some k := hk; injection hk with hk; have := HX.out.size; omega))
  have hgg : w1.heap.size ≤ gg := by have := (own_bounds hown3).1; have := HX.out.size; omega
  have HO3 : Hid (Out (0 :: a :: b) (.slice (some ⟨gg, 0, none⟩) (1 + (b.length + 1)) cap1) w3) := Lib.hid (by
   have e : 1 + (b.length + 1) = (0 :: a :: b : List UInt8).length := by simp; omega
   have e2 : [Value.int .u8 0] ++ (a :: b).map byteV = (0 :: a :: b : List UInt8).map byteV := rfl
   rw [e, e2] at hown3
   rw [e]
   have hl := own_bounds hown3
   rcases hown3.2 with ⟨h, _⟩ | ⟨g', cap, cur, hv, hb, hg, hc, hm, hs, ht⟩
   ·cases h
   ·injection hv with hv _ hv3
    injection hv with hv
    injection hv with hv
    subst hv
    subst hv3
    exact Out.of_blk hg (by decide) (by decide) rfl hc (by rw [Nat.mul_one] at ht; exact ht))
  clear hown3 hgrow hat
  go_wp2_with fail
  go_ret
  exact ⟨_, rfl, ⟨by rw [Hnv.out]; exact HO3.out, ⟨_, _, _, _, rfl, hgg⟩⟩, HX3.out⟩
 ·rw [if_neg h] at h128 hnv
  have Hnv := Lib.hid hnv
  clear hv hcs hx hO hcell hnv h ha0 e2
  go_wp2_with fail
  go_ret
  exact ⟨_, rfl, ⟨by rw [Hnv.out]; exact HO.out, ⟨_, _, _, _, rfl, hgb⟩⟩, HX.out⟩
end Go.Proofs.YtammjbmfiakbnaaGreatDoor
namespace Go.Proofs.YtammjbmfiakbnaaGreatDoor
open Go.RowKit
theorem and128ne (a : UInt8) : (bits .and .u8 (a.toNat : Int) 128 != 0) = decide (128 ≤ a.toNat) := by
 rw [and128]
 by_cases h : 128 ≤ a.toNat
 ·rw [if_pos h]; simp [h]
 ·rw [if_neg h]; simp [h]
set_option maxRecDepth 100000 in
set_option maxHeartbeats 4000000 in
theorem enc2_neg (B : Nat) (z : Value) (n : Int) (hn : n < 0) (hn40 : n.natAbs < 10 ^ 40) (w : World) (h : IntIn w B true z n) :
  Calls Tryz.prog 84 #[.pointer (some ⟨B, 0, none⟩)] w fun e w' => ∃ r, e = .returned r ∧ (Out (tc n) r w' ∧ New w r) ∧ Ext w w' := by
 have hs := sign_any B true z n w h
 rw [Int.sign_eq_neg_one_of_neg hn] at hs
 have Hs := Lib.hid hs
 have Hl := Lib.hid (intBitLen_any B true z n (by omega) w h)
 have H := Lib.hid h
 have Hn40 := Lib.hid hn40
 clear hs h hn40
 go_enter Tryz.func84, Tryz.ntmps84
 go_wp2_with fail
 refine Hs.out.mono ?_
 rintro e w1 ⟨rfl, rfl⟩
 go_wp2_with fail
 refine Hl.out.mono ?_
 rintro e w2 ⟨k, rfl, hk1, hk2, hk0, hk3, rfl⟩
 have Hk1 := Lib.hid hk1
 have Hk2 := Lib.hid hk2
 clear hk1 hk2
 go_wp2_with fail
 generalize hW : World.alloc _ _ = W2
 have h0 : ∃ W1 : World, W1.heap.size = w2.heap.size + 1 ∧ Blk W1 w2.heap.size 114 #[.bool false, .slice none 0 0] ∧ Ext w2 W1 ∧ W2.heap.size = w2.heap.size + 1 + 1 ∧ Blk W2 (w2.heap.size + 1) 114 #[.bool false, .slice none 0 0] ∧ Ext W1 W2 := by
  rw [← hW]
  exact ⟨_, by simp, Blk.new w2 114 _, (Ext.refl w2).alloc _, by simp, Blk.new' _ _ 114 _ (by simp), (Ext.refl _).alloc _⟩
 clear hW
 obtain ⟨W1, hsz1, hD, hE1, hsz, hD2, hE2⟩ := h0
 have HE1 := Lib.hid hE1
 clear hE1
 have HD := Lib.hid hD
 have HD2 := Lib.hid hD2
 have HE2 := Lib.hid hE2
 have Hsz := Lib.hid hsz
 clear hD hD2 hE2 hsz
 refine (bigOne_any W2).mono ?_
 rintro e w3 ⟨rfl, h1, h2, hx3⟩
 have H1 := Lib.hid h1
 have H2 := Lib.hid h2
 have HX3 := Lib.hid hx3
 clear h1 h2 hx3
 have hk133 : k ≤ 133 := by
  rcases Nat.lt_or_ge 133 k with h | h
  ·exfalso
   have h1 : (2 : Nat) ^ 134 ≤ 2 ^ k := Nat.pow_le_pow_right (by omega) h
   have h2 := Hk2.out
   have h3 := Hn40.out
   have e1 : (2 : Nat) ^ 134 = 21778071482940061661655974875633165533184 := by decide
   have e2 : (10 : Nat) ^ 40 = 10000000000000000000000000000000000000000 := by decide
   omega
  ·exact h
 obtain ⟨s, hs⟩ : ∃ s, s = (k / 8 + 1) * 8 := ⟨_, rfl⟩
 have hsI : ((s : Nat) : Int) = ((k : Int) / 8 + 1) * 8 := by omega
 have hlsh := intLsh_any (w2.heap.size + 1) (W2.heap.size + 1) W2.heap.size (s / 64) (s % 64) s (by omega) (by unfold By8; omega) (by omega) (by omega) (by have := Hsz.out; omega) W1 w3 (HE2.out.trans HX3.out) (by omega) (HD2.out.ext HX3.out) H1.out H2.out
 rw [hsI] at hlsh
 have Hlsh := Lib.hid hlsh
 have Hs := Lib.hid hs
 have hq : s / 64 ≤ 2 := by omega
 have Hs8 := Lib.hid (show s = 8 * (k / 8 + 1) by omega)
 clear hlsh hsI hs
 go_wp2_with fail
 refine Hlsh.out.mono ?_
 rintro e w4 ⟨rfl, z4, l4, hD4, hz4, hv4, hl4, hx4⟩
 have hI4 := H.out.ext (HE1.out.trans hx4)
 obtain ⟨hb, A', c', l', rfl, hlc', hcm', hseg', hw', hnr', hl', hn', hg'⟩ := hI4
 have hl0 : l' ≠ [] := hg' rfl
 obtain ⟨zb, zo, rfl, hzb, -, hcells⟩ := hseg' (by intro e; rw [List.map_eq_nil_iff] at e; exact hl0 e)
 simp only [if_true] at hn'
 have hna : n.natAbs = wVal l' := by rw [hn']; simp
 have hk1 := Hk1.out
 have hk2 := Hk2.out
 rw [hna] at hk1 hk2
 have hs8 := Hs8.out
 have hp1 : (2 : Nat) ^ (k + 1) ≤ 2 ^ s := Nat.pow_le_pow_right (by omega) (by omega)
 have hp2 : (2 : Nat) ^ s ≤ 2 ^ (k + 8) := Nat.pow_le_pow_right (by omega) (by omega)
 rw [Nat.pow_succ] at hp1
 rw [Nat.pow_add] at hp2
 have hlt4 : wVal l' < wVal l4 := by omega
 have hcl4 : wVal l4 < 18446744073709551616 * wVal l' := by
  have : (2 : Nat) ^ 8 = 256 := by decide
  rw [this] at hp2
  omega
 have hl40 : 0 < l4.length := by
  rcases Nat.eq_zero_or_pos l4.length with h | h
  ·rw [List.length_eq_zero_iff.1 h] at hlt4
   simp [wVal] at hlt4
  ·exact h
 obtain ⟨gx, cx, rfl, hgx⟩ := own_form1 hz4.1 hl40
 obtain ⟨xa, hX⟩ : ∃ xa, Blk w4 gx 291 xa := by
  rcases hz4.1.2 with ⟨h, _⟩ | ⟨g', cap, cur, hv, _, hg, _⟩
  ·cases h
  ·injection hv with hv; injection hv with hv; injection hv with hv; subst hv
   exact ⟨_, hg⟩
 have hbd := own_bounds hz4.1
 unfold maxLen at hcm' hbd
 have hadd := intAdd_any w2.heap.size B (w2.heap.size + 1) zb zo c' gx cx l4 l' (by have := H.out.blk.lt; omega) (by omega) w2 w4 (HE1.out.trans hx4) (Nat.le_refl _) (HD.out.ext hx4) hb hD4 xa 291 hX hzb
  (fun j a ha => (own_get hz4.1 (wd_at ha)).1) (fun j a ha => hcells j _ (wd_at ha)) hz4.2.1 hw' hz4.2.2 hnr' hl0 hlt4 hcl4 (by omega) ⟨hbd.2.2.1, hbd.2.2.2⟩ ⟨hlc', hcm'⟩
 have Hadd := Lib.hid hadd
 have Hv4 := Lib.hid hv4
 have Hna := Lib.hid hna
 have Hk := Lib.hid hk1
 have Hk' := Lib.hid hk2
 have Hlt4 := Lib.hid hlt4
 clear hadd hb hlc' hcm' hseg' hw' hnr' hn' hg' hl0 hcells hna hk1 hk2 hp1 hp2 hlt4 hcl4 hX hbd hz4 hD4 hv4 hs8
 go_wp2_with fail
 refine Hadd.out.mono ?_
 rintro e w5 ⟨rfl, z5, l5, hD5, hz5, hv5, hl5, hx5⟩
 have hpos : 0 < wVal l5 := by have := Hlt4.out; omega
 have hI5 : IntIn w5 w2.heap.size false z5 (wVal l5) := ⟨BlkI.of hD5, BigR.trans (Trans.weak (fun b hb => hb.elim)) (BigW.toR (b0 := w4.heap.size) ⟨l5, hz5, by omega, by simp, by simp⟩)⟩
 have Hby := Lib.hid (intBytes_any w2.heap.size false z5 (wVal l5) (by omega) w5 hI5)
 have HX5 := Lib.hid hx5
 have Hv5 := Lib.hid hv5
 clear hI5 hD5 hz5 hx5 hv5 hpos
 go_wp2_with fail
 refine Hby.out.mono ?_
 rintro e w6 ⟨a, b, gb, i, c, rfl, hc1, hc2, ha0, hv, hgb, hcs, hx6⟩
 have hmv : beVal (a :: b) + n.natAbs = 2 ^ (8 * (k / 8 + 1)) := by
  rw [← Hs8.out, ← Hv4.out, ← Hv5.out, Hna.out]
  omega
 obtain ⟨hnb1, hnb2, -⟩ := neg_bytes (Hk1.out) (Hk2.out) ha0 hmv
 have hnn : -((n.natAbs : Nat) : Int) = n := by omega
 rw [hnn] at hnb1 hnb2
 have hO : Out (a :: b) (.slice (some ⟨gb, i, none⟩) (b.length + 1) c) w6 := rawOut (l := a :: b) hc1 hcs
 have HX6 := Lib.hid (HX5.out.trans hx6)
 have hgb2 : w2.heap.size ≤ gb := by have := HX5.out.size; omega
 have HO := Lib.hid hO
 obtain ⟨b', o', c', e', hb', hlt', hcell⟩ := hO.form
 injection e' with e1 e2 e3
 injection e1 with e1
 injection e1 with e1 e4
 subst e1; subst e3; subst e4
 have hc0 : w6.cell? ⟨gb, i, none⟩ = some (.int .u8 a.toNat) := hcell 0 (byteV a) rfl
 have Hnb1 := Lib.hid hnb1
 have Hnb2 := Lib.hid hnb2
 have Hcs := Lib.hid hcs
 cases b with
 |nil =>
  have Htc := Lib.hid (hnb2 rfl)
  clear hnb1 hnb2 hmv hO hcell hv hcs hx6 ha0 e2 hnn
  go_wp2_with fail
  go_ret
  exact ⟨_, rfl, ⟨by rw [Htc.out]; exact HO.out, ⟨_, _, _, _, rfl, hgb2⟩⟩, HX6.out⟩
 |cons d t =>
  have hc1' : w6.cell? ⟨gb, i + 1, none⟩ = some (.int .u8 d.toNat) := hcell 1 (byteV d) rfl
  have h128 := and128ne d
  have hbl : (t.length : Int) + 1 + 1 ≤ 800 := by simp at hc1; omega
  have htc := hnb1 d t rfl
  by_cases ha : a.toNat = 255
  ·by_cases hd : 128 ≤ d.toNat
   ·rw [if_pos ⟨ha, hd⟩] at htc
    have Htc := Lib.hid htc
    have ha' : ((a.toNat : Int) == 255) = true := by simp [ha]
    rw [show decide (128 ≤ d.toNat) = true by simp [hd]] at h128
    clear hnb1 hnb2 hmv hO hcell hv hcs hx6 ha0 e2 hnn htc ha hd
    have hcn : ¬ c = 1 := by simp at hc1; omega
    have HO2 : Hid (Out (d :: t) (.slice (some ⟨gb, i + 1, none⟩) (t.length + 1) (c - 1)) w6) := Lib.hid (rawOut (l := d :: t) (by simp at hc1 ⊢; omega) (by
     obtain ⟨cs, q1, q2⟩ := Hcs.out
     exact ⟨cs, q1, fun j u hu => by
      have := q2 (j + 1) u (by simpa using hu)
      rw [show i + 1 + j = i + (j + 1) by omega]
      exact this⟩))
    go_wp2_with fail
    go_ret
    exact ⟨_, rfl, ⟨by rw [Htc.out]; exact HO2.out, ⟨_, _, _, _, rfl, hgb2⟩⟩, HX6.out⟩
   ·rw [if_neg (fun h => hd h.2)] at htc
    have Htc := Lib.hid htc
    have ha' : ((a.toNat : Int) == 255) = true := by simp [ha]
    rw [show decide (128 ≤ d.toNat) = false by simp; omega] at h128
    clear hnb1 hnb2 hmv hO hcell hv hcs hx6 ha0 e2 hnn htc ha hd
    go_wp2_with fail
    go_ret
    exact ⟨_, rfl, ⟨by rw [Htc.out]; exact HO.out, ⟨_, _, _, _, rfl, hgb2⟩⟩, HX6.out⟩
  ·rw [if_neg (fun h => ha h.1)] at htc
   have Htc := Lib.hid htc
   have ha' : ((a.toNat : Int) == 255) = false := beq_eq_false_iff_ne.2 (by omega)
   clear hnb1 hnb2 hmv hO hcell hv hcs hx6 ha0 e2 hnn htc ha
   go_wp2_with fail
   go_ret
   exact ⟨_, rfl, ⟨by rw [Htc.out]; exact HO.out, ⟨_, _, _, _, rfl, hgb2⟩⟩, HX6.out⟩
/-- Every number. -/
theorem enc2_any (B : Nat) (g : Bool) (z : Value) (n : Int) (hn40 : n.natAbs < 10 ^ 40) (w : World) (h : IntIn w B g z n) :
  Calls Tryz.prog 84 #[.pointer (some ⟨B, 0, none⟩)] w fun e w' => ∃ r, e = .returned r ∧ (Out (tc n) r w' ∧ New w r) ∧ Ext w w' := by
 rcases Int.lt_trichotomy n 0 with hn | hn | hn
 ·have hg : g = true := by
   cases g with
   |true => rfl
   |false =>
    obtain ⟨A, c, l, -, -, -, -, -, -, -, hv, -⟩ := h.big
    simp at hv
    omega
  subst hg
  exact enc2_neg B z n hn hn40 w h
 ·subst hn
  exact enc2_zero B g z w h
 ·exact enc2_pos B g z n hn w h
end Go.Proofs.YtammjbmfiakbnaaGreatDoor
namespace Go.Proofs.YtammjbmfiakbnaaGreatDoor
open Go.RowKit
set_option maxRecDepth 100000 in
set_option maxHeartbeats 1000000 in
theorem mar_bigint (g : Bool) (z : Value) (n : Int) (hn40 : n.natAbs < 10 ^ 40) (I : Value) (w : World) (h : BigR (fun _ => False) w n g z) (X : Nat → Prop) (hX : ∀ b, X b → b < w.heap.size) : Calls Tryz.prog 57 #[I, .iface 114 (.agg #[.bool g, z])] w (MarQ X (tc n) w) := by
 have HXX := Lib.hid hX
 clear hX
 have hz : ∃ A m c, z = .slice A m c := by
  obtain ⟨A, c, l, e, _⟩ := h
  exact ⟨A, _, c, e⟩
 obtain ⟨A, m, c, rfl⟩ := hz
 have hc := enc2_any w.heap.size g (.slice A m c) n hn40 (w.alloc (.cells #[.bool g, .slice A m c] 114)) ⟨BlkI.of (Blk.new w 114 _), BigR.trans (Trans.onx (Onx.of_ext ((Ext.refl w).alloc _) _)) h⟩
 have Hc := Lib.hid hc
 clear hc h hn40
 go_enter Tryz.func57, Tryz.ntmps57
 go_wp2_with fail
 refine Hc.out.mono ?_
 rintro e w1 ⟨r, rfl, hr, hx⟩
 have HR := Lib.hid hr
 clear hr
 go_wp2_with fail
 go_ret2
 exact ⟨r, rfl, ⟨HR.out.1, HR.out.2.far HXX.out (by simp)⟩, ((Ext.refl w).alloc _).trans hx⟩
theorem and128eq (a : UInt8) : (bits .and .u8 (a.toNat : Int) 128 == 0) = decide (a.toNat < 128) := by
 rw [and128]
 by_cases h : 128 ≤ a.toNat
 ·rw [if_pos h]; simp; omega
 ·rw [if_neg h]; simp; omega
theorem and128gt (a : UInt8) : decide ((0 : Int) < bits .and .u8 (a.toNat : Int) 128) = decide (128 ≤ a.toNat) := by
 rw [and128]
 by_cases h : 128 ≤ a.toNat
 ·rw [if_pos h]; simp [h]
 ·rw [if_neg h]; simp [h]
set_option maxRecDepth 100000 in
set_option maxHeartbeats 1000000 in
theorem mar_varint (g : Bool) (z : Value) (n : Int) (hn40 : n.natAbs < 10 ^ 40) (I : Value) (w : World) (h : BigR (fun _ => False) w n g z) (X : Nat → Prop) (hX : ∀ b, X b → b < w.heap.size) : Calls Tryz.prog 66 #[I, .iface 114 (.agg #[.bool g, z])] w (MarQ X (tc n) w) := by
 have HXX := Lib.hid hX
 clear hX
 have hz : ∃ A m c, z = .slice A m c := by
  obtain ⟨A, c, l, e, _⟩ := h
  exact ⟨A, _, c, e⟩
 obtain ⟨A, m, c, rfl⟩ := hz
 have hL := tc_spec n
 have hLl := tc_length hn40
 have hcall := fun W (he : Ext w W) => mar_bigint g (.slice A m c) n hn40 I W (BigR.trans (Trans.onx (Onx.of_ext he _)) h) X (fun b hb => by have := HXX.out b hb; have := he.size; omega)
 generalize tc n = L at *
 obtain ⟨hne, -, hmin⟩ := hL
 have Hcall := Lib.hid hcall
 clear hcall h hn40
 go_enter Tryz.func66, Tryz.ntmps66
 go_wp2_with fail
 refine (Hcall.out _ (by first | exact Ext.refl w | exact (Ext.refl w).alloc _)).mono ?_
 rintro e w1 ⟨r, rfl, hr, hx⟩
 have HX : Hid (Ext w w1) := Lib.hid (Ext.trans (by first | exact (Ext.refl w).alloc _ | exact Ext.refl w) hx)
 have HR := Lib.hid hr
 obtain ⟨b, o, c1, rfl, hc1, hb, hcell⟩ := hr.1.form
 clear hr hx
 cases L with
 |nil => exact absurd rfl hne
 |cons a t =>
 cases t with
 |nil =>
  clear hcell hmin hne
  go_wp2_with fail
  refine wp_loop_once ?_
  go_wp2_with fail
  go_ret2
  exact ⟨_, rfl, HR.out, HX.out⟩
 |cons d t =>
  have k0 : w1.cell? ⟨b, o, none⟩ = some (.int .u8 a.toNat) := hcell 0 (byteV a) rfl
  have k1 : w1.cell? ⟨b, o + 1, none⟩ = some (.int .u8 d.toNat) := hcell 1 (byteV d) rfl
  obtain ⟨g1, g2⟩ := hmin a d t rfl
  have ht : (t.length : Int) + 1 + 1 ≤ 18 := by simp at hLl; omega
  have ht0 : (0 : Int) < t.length + 1 := by omega
  have q1 := and128eq d
  have q2 := and128gt d
  by_cases h0 : a.toNat = 0
  ·have hd : 128 ≤ d.toNat := by
    rcases Nat.lt_or_ge d.toNat 128 with h | h
    ·exact absurd ⟨h0, h⟩ g1
    ·exact h
   have e0 : ((d.toNat : Int) == 0) = false := beq_eq_false_iff_ne.2 (by omega)
   rw [show decide (d.toNat < 128) = false by simp; omega] at q1
   rw [h0] at k0
   have k0 : w1.cell? ⟨b, o, none⟩ = some (.int .u8 0) := k0
   clear hcell hmin hne g1 g2 q2 hd h0
   generalize d.toNat = dn at *
   go_wp2_with fail
   refine wp_loop_once ?_
   go_wp2_with fail
   go_ret2
   exact ⟨_, rfl, HR.out, HX.out⟩
  ·have e0 : ((a.toNat : Int) == 0) = false := beq_eq_false_iff_ne.2 (by omega)
   by_cases h1 : a.toNat = 255
   ·have hd : d.toNat < 128 := by
     rcases Nat.lt_or_ge d.toNat 128 with h | h
     ·exact h
     ·exact absurd ⟨h1, h⟩ g2
    have e1 : ((d.toNat : Int) == 255) = false := beq_eq_false_iff_ne.2 (by omega)
    rw [show decide (128 ≤ d.toNat) = false by simp; omega] at q2
    rw [h1] at k0
    have k0 : w1.cell? ⟨b, o, none⟩ = some (.int .u8 255) := k0
    clear hcell hmin hne g1 g2 q1 hd h0 h1 e0
    generalize d.toNat = dn at *
    go_wp2_with fail
    refine wp_loop_once ?_
    go_wp2_with fail
    go_ret2
    exact ⟨_, rfl, HR.out, HX.out⟩
   ·have e1 : ((a.toNat : Int) == 255) = false := beq_eq_false_iff_ne.2 (by omega)
    have e2 : ((a.toNat : Int) != 0) = true := bne_iff_ne.2 (by omega)
    have e3 : ((a.toNat : Int) != 255) = true := bne_iff_ne.2 (by omega)
    clear hcell hmin hne g1 g2 q1 q2 h0 h1
    generalize a.toNat = an at *
    go_wp2_with fail
    refine wp_loop_once ?_
    go_wp2_with fail
    go_ret2
    exact ⟨_, rfl, HR.out, HX.out⟩
end Go.Proofs.YtammjbmfiakbnaaGreatDoor
namespace Go.Proofs.YtammjbmfiakbnaaGreatDoor
open Go.RowKit
set_option maxRecDepth 100000 in
theorem unscaled_any (D : Nat) (w : World) : Calls Tryz.prog 85 #[.pointer (some ⟨D, 0, none⟩)] w fun e w' => e = .returned (.pointer (some ⟨D, 0, none⟩)) ∧ w' = w := by
 go_enter Tryz.func85, Tryz.ntmps85
 go_wp2_with fail
 go_ret
 exact ⟨rfl, rfl⟩
set_option maxRecDepth 100000 in
theorem scale_any (D : Nat) (sc : Int) (w : World) (h : w.cell? ⟨D, 2, none⟩ = some (.int .i32 sc)) : Calls Tryz.prog 86 #[.pointer (some ⟨D, 0, none⟩)] w fun e w' => e = .returned (.int .i32 sc) ∧ w' = w := by
 go_enter Tryz.func86, Tryz.ntmps86
 go_wp2_with fail
 go_ret
 exact ⟨rfl, rfl⟩
/-- A copy of bytes into a block of the call's own. -/
theorem copy_bytes {w : World} {G o n c : Nat} {cur : Array Value} (hG : Blk w G 5 cur) {l : List UInt8} {b p k : Nat} (hl : ∀ j u, (l.map byteV)[j]? = some u → w.cell? ⟨b, p + j, none⟩ = some u) (hn : l.length = Nat.min l.length n) (hfit : o + l.length ≤ cur.size) (ty : TypeId) :
  (Builtin.copy_ #[27, 27] ty #[.slice (some ⟨G, o, none⟩) n c, .slice (some ⟨b, p, none⟩) l.length k]).run Tryz.prog w = .ok (.int .i64 l.length) (w.setRow G (cur.toList.take o ++ l.map byteV ++ cur.toList.drop (o + l.length)).toArray) := by
 have := run_copy_row (P := Tryz.prog) w 27 27 ty 5 G o n c ⟨b, p, none⟩ l.length k cur 5 (l.map byteV) Tryz.underlying27 size5 hG (by rw [List.length_map]; exact hn) (fun j v hj => by rw [addr_off]; exact hl j v hj) (by simpa using hfit) (by intro u hu; simp only [List.mem_map] at hu; obtain ⟨y, _, rfl⟩ := hu; rfl)
 rw [this]
 simp [goInt]
/-- Only block g is written. -/
theorem setRow_frame {w w0 : World} (h : Ext w0 w) {G : Nat} (hG : w0.heap.size ≤ G) (cs : Array Value) : Ext w0 (w.setRow G cs) :=
 ⟨h.os, h.tape, h.output, by have := h.size; simpa [World.setRow] using this, fun k hk => (setRow_other w G k cs (by omega)).trans (h.block k hk)⟩
set_option maxRecDepth 100000 in
set_option maxHeartbeats 2000000 in
theorem mar_dec (g : Bool) (z : Value) (n sc : Int) (hn40 : n.natAbs < 10 ^ 40) (I : Value) (w : World) (h : BigR (fun _ => False) w n g z) (X : Nat → Prop) (hX : ∀ b, X b → b < w.heap.size) : Calls Tryz.prog 60 #[I, .iface 116 (.agg #[.bool g, z, .int .i32 sc])] w (MarQ X (beN sc 4 ++ tc n) w) := by
 have HXX := Lib.hid hX
 clear hX
 have hz : ∃ A m c, z = .slice A m c := by
  obtain ⟨A, c, l, e, _⟩ := h
  exact ⟨A, _, c, e⟩
 obtain ⟨A, m, c, rfl⟩ := hz
 have hLl := tc_length hn40
 have hL0 : 0 < (tc n).length := List.length_pos_iff.2 (tc_spec n).1
 have hc := fun (D : Nat) (W : World) (he : Ext w W) (hD : Blk W D 116 #[.bool g, .slice A m c, .int .i32 sc]) => enc2_any D g (.slice A m c) n hn40 W ⟨⟨116, _, hD, rfl, rfl⟩, BigR.trans (Trans.onx (Onx.of_ext he _)) h⟩
 generalize tc n = L at *
 have Hc := Lib.hid hc
 clear hc h hn40
 have hul := Lib.hid unscaled_any
 go_enter Tryz.func60, Tryz.ntmps60
 go_wp2_with fail
 refine (hul.out _ _).mono ?_
 rintro e w1 ⟨rfl, rfl⟩
 have hD := Blk.new w 116 #[.bool g, .slice A m c, .int .i32 sc]
 have hE : Ext w (w.alloc (.cells #[.bool g, .slice A m c, .int .i32 sc] 116)) := (Ext.refl w).alloc _
 generalize World.alloc _ _ = W0 at *
 have HD := Lib.hid hD
 have HE := Lib.hid hE
 have Hc0 := Lib.hid (Hc.out _ W0 hE hD)
 have hDl := hD.lt
 clear hD hE
 go_wp2_with fail
 refine Hc0.out.mono ?_
 rintro e w2 ⟨r, rfl, hr, hx⟩
 obtain ⟨b, o, c1, rfl, hc1, hb, hcell⟩ := hr.1.form
 obtain ⟨n', hn'⟩ : ∃ n', n' = L.length := ⟨_, rfl⟩
 have hmk : ∀ W : World, (Instr.makeSlice 27 (.int .i64 (4 + (n' : Int))) (.int .i64 (4 + (n' : Int)))).run Tryz.prog W = .ok (.slice (some ⟨W.heap.size, 0, none⟩) (4 + n') (4 + n')) (W.alloc (.cells (madeCells #[.int .u8 0] (4 + n')) 5)) := fun W => by
  have := mk_bytes (4 + n') (by omega) W
  rwa [show ((4 + n' : Nat) : Int) = 4 + (n' : Int) by omega] at this
 have hq : ∀ W : World, (binOp .eql 27 (.slice (some ⟨b, o, none⟩) n' c1) (.slice none 0 0)).run Tryz.prog W = .ok (.bool false) W := fun W => Lib.run_eql_slice_nil W 27 5 (some ⟨b, o, none⟩) n' c1 0 0 Tryz.underlying27
 have HX := Lib.hid (HE.out.trans hx)
 have HD2 := Lib.hid (HD.out.ext hx)
 have Hcell := Lib.hid hcell
 have Hn := Lib.hid hn'
 rw [← hn'] at hc1 hLl hL0 ⊢
 clear hr hx hcell hn'
 go_upto_region 16 with fail
 clear hmk
 have hG : Blk (w2.alloc (.cells (madeCells #[.int .u8 0] (4 + n')) 5)) w2.heap.size 5 (madeCells #[.int .u8 0] (4 + n')) := Blk.new w2 5 _
 have hE3 : Ext w2 (w2.alloc (.cells (madeCells #[.int .u8 0] (4 + n')) 5)) := (Ext.refl w2).alloc _
 generalize hGs : w2.heap.size = G at *
 generalize World.alloc _ _ = w3 at *
 have hD3 := HD2.out.ext hE3
 have hsc := fun W (he : Ext w3 W) => scale_any w.heap.size sc W ((hD3.ext he).cell 2)
 have HG := Lib.hid hG
 have HE3 := Lib.hid hE3
 have Hsc := Lib.hid hsc
 have hGl := hG.lt
 clear hG hE3 hD3 hsc
 go_region_with (first | (refine (Hsc.out _ (by first | exact (Ext.refl w3).drew | exact Ext.refl w3)).mono ?_; rintro e w4 ⟨rfl, rfl⟩) | (refine (encInt_any sc _).mono ?_; rintro e w5 ⟨r5, rfl, hr5, hx5⟩; rw [← be4] at hr5; obtain ⟨b5, o5, c5, hr5e, hc5, hb5, hcell5⟩ := hr5.form; rw [beN_len] at hr5e hc5; subst hr5e; have HC5 := Lib.hid hcell5; have hx5 : Ext w3 w5 := Ext.trans (by first | exact (Ext.refl w3).drew | exact Ext.refl w3) hx5; have hcp := copy_bytes (n := 4) (c := 4 + n') (o := 0) (k := c5) (HG.out.ext hx5) hcell5 (by rw [beN_len]; rfl) (by rw [beN_len, size_madeCells]; omega); rw [beN_len] at hcp; clear hcell5 hr5))
 all_goals
  generalize hW : World.setRow _ _ _ = w6
  have h6 : (∃ cs : List Value, cs.length = n' ∧ Blk w6 G 5 ((beN sc 4).map byteV ++ cs).toArray) ∧ Ext w2 w6 := by
   rw [← hW]
   refine ⟨⟨_, ?_, setRow_heap _ _ _ _ 5 _ (HG.out.ext hx5)⟩, setRow_frame (HE3.out.trans hx5) (by omega) _⟩
   simp [size_madeCells]
  clear hW hcp
  obtain ⟨⟨cs, hcs, hB6⟩, hE6⟩ := h6
  have hc6 := fun j u (hu : (L.map byteV)[j]? = some u) => hE6.cellS (Hcell.out j u hu)
  have hn4 : ¬ n' = 0 := by omega
  have hcp2 := copy_bytes (w := w6) (n := n') (c := n') (o := 4) (k := c1) hB6 hc6 (by rw [← Hn.out]; simp) (by simp [hcs, beN_len, ← Hn.out])
  rw [← Hn.out] at hcp2
  have hwG : w.heap.size ≤ G := by have := HX.out.size; omega
  have hfin : ∀ W, W = w6.setRow G (List.take 4 ((beN sc 4).map byteV ++ cs) ++ L.map byteV ++ List.drop (4 + n') ((beN sc 4).map byteV ++ cs)).toArray → Out (beN sc 4 ++ L) (.slice (some ⟨G, 0, none⟩) (4 + n') (4 + n')) W ∧ Ext w W := by
   rintro W rfl
   refine ⟨?_, setRow_frame (HX.out.trans hE6) (by have := HX.out.size; omega) _⟩
   refine Out.of_blk (setRow_heap _ _ _ _ 5 _ hB6) (by decide) (by decide) (by simp [beN_len, Hn.out]) (by simp [beN_len, Hn.out]) ?_
   rw [List.take_append_of_le_length (by simp [beN_len]), List.take_of_length_le (by simp [beN_len]), List.take_append_of_le_length (by simp [beN_len]), List.take_of_length_le (by simp [beN_len]), List.map_append]
  have Hfin := Lib.hid hfin
  have HE6 := Lib.hid hE6
  clear hfin hE6 hc6 hB6 hx5 hb5
  go_wp2_with fail
  all_goals
   go_ret2
   obtain ⟨f1, f2⟩ := Hfin.out _ rfl
   exact ⟨_, rfl, ⟨f1, New.far (w := w) (W := w) ⟨_, _, _, _, rfl, hwG⟩ HXX.out (Nat.le_refl _)⟩, f2⟩
end Go.Proofs.YtammjbmfiakbnaaGreatDoor
namespace Go.Proofs.YtammjbmfiakbnaaGreatDoor
open Go.RowKit
/-- Blocks outside of Y stay as they are. -/
structure KeepY (Y : Nat → Prop) (w w' : World) : Prop where
 os : w'.os = w.os
 tape : w'.tape = w.tape
 output : w'.output = w.output
 size : w.heap.size ≤ w'.heap.size
 block : ∀ k, k < w.heap.size → ¬ Y k → w'.heap[k]? = w.heap[k]?
theorem KeepY.refl (Y : Nat → Prop) (w : World) : KeepY Y w w := ⟨rfl, rfl, rfl, Nat.le_refl _, fun _ _ _ => rfl⟩
theorem KeepY.trans {Y : Nat → Prop} {a b c : World} (h : KeepY Y a b) (k : KeepY Y b c) : KeepY Y a c :=
 ⟨k.os.trans h.os, k.tape.trans h.tape, k.output.trans h.output, Nat.le_trans h.size k.size, fun i hi hy => (k.block i (Nat.lt_of_lt_of_le hi h.size) hy).trans (h.block i hi hy)⟩
theorem KeepY.of_ext {Y : Nat → Prop} {w w' : World} (h : Ext w w') : KeepY Y w w' := ⟨h.os, h.tape, h.output, h.size, fun k hk _ => h.block k hk⟩
theorem KeepY.ext {Y : Nat → Prop} {w0 w w' : World} (h : KeepY Y w w') (he : Ext w0 w) (hy : ∀ k, Y k → w0.heap.size ≤ k) : Ext w0 w' :=
 ⟨h.os.trans he.os, h.tape.trans he.tape, h.output.trans he.output, Nat.le_trans he.size h.size, fun k hk => (h.block k (Nat.lt_of_lt_of_le hk he.size) (fun hY => by have := hy k hY; omega)).trans (he.block k hk)⟩
theorem KeepY.weak {Y Y' : Nat → Prop} {w w' : World} (h : KeepY Y w w') (hy : ∀ k, k < w.heap.size → Y k → Y' k) : KeepY Y' w w' := ⟨h.os, h.tape, h.output, h.size, fun k hk hn => h.block k hk (fun hY => hn (hy k hk hY))⟩
/-- Variable p of the buffer's type holds a slice of the call's own that reads as l; both lie in Y. -/
def BufW (w : World) (Y : Nat → Prop) (p : Nat) (l : List UInt8) : Prop := Y p ∧ ∃ v, (∀ k, v.ownBlock = some k → Y k) ∧ Blk w p 138 #[v] ∧ w.ownsRow 0 5 1 v l.length (l.map byteV)
theorem BufW.ext {w w1 : World} {Y : Nat → Prop} {p : Nat} {l : List UInt8} (h : BufW w Y p l) (he : Ext w w1) : BufW w1 Y p l := by
 obtain ⟨h0, v, hv, hb, ho⟩ := h
 exact ⟨h0, v, hv, hb.ext he, ownsRow_ext ho he⟩
theorem BufW.weak {w : World} {Y Y' : Nat → Prop} {p : Nat} {l : List UInt8} (h : BufW w Y p l) (hy : ∀ k, k < w.heap.size → Y k → Y' k) : BufW w Y' p l := by
 obtain ⟨h0, v, hv, hb, ho⟩ := h
 exact ⟨hy _ hb.lt h0, v, fun k hk => hy k (by
  rcases ho.2 with ⟨rfl, _⟩ | ⟨g, cap, cur, rfl, _, hg, _⟩
  ·cases hk
  ·injection hk with hk
   subst hk
   exact (Array.getElem?_eq_some_iff.1 hg).1) (hv k hk), hb, ho⟩
theorem own_typ {w : World} {b0 n p : Nat} {v : Value} {xs cs : List Value} {t : TypeId} (h : w.ownsRow b0 5 1 v n xs) (hp : Blk w p t cs.toArray) (ht : t ≠ 5) : v.ownBlock ≠ some p := by
 rcases h.2 with ⟨rfl, _⟩ | ⟨g, cap, cur, rfl, _, hg, _⟩
 ·simp [Value.ownBlock]
 ·intro e
  injection e with e
  subst e
  exact Blk.ne (t := 5) hg hp (fun e => ht e.symm) rfl
theorem buf_step {w W w1 : World} {Y : Nat → Prop} {p gg cap1 n : Nat} {c l : List UInt8} {v : Value} (hb0 : Y p) (hv : ∀ k, v.ownBlock = some k → Y k) (hY : ∀ k, w.heap.size ≤ k → Y k) (Hb : Blk w p 138 #[v]) (Ho : w.ownsRow 0 5 1 v c.length (c.map byteV)) (hE : Ext w W)
  (hown1 : w1.ownsRow 0 5 1 (.slice (some ⟨gg, 0, none⟩) n cap1) n ((c ++ l).map byteV)) (hn : n = (c ++ l).length) (hgrow : W.grownBy w1 v.ownBlock) (hat : v.ownBlock = some gg ∨ W.heap.size ≤ gg) :
  BufW (w1.setCell ⟨p, 0, none⟩ (.slice (some ⟨gg, 0, none⟩) n cap1)) Y p (c ++ l) ∧ KeepY Y w (w1.setCell ⟨p, 0, none⟩ (.slice (some ⟨gg, 0, none⟩) n cap1)) := by
 subst hn
 have hvp := own_typ (cs := [v]) Ho Hb (by decide)
 have hlt := Hb.lt
 have hs := hE.size
 have hggY : Y gg := by
  rcases hat with h | h
  ·exact hv gg h
  ·exact hY gg (by omega)
 have hggp : gg ≠ p := by
  rintro rfl
  rcases hat with h | h
  ·exact hvp h
  ·omega
 have hw1 : Blk w1 p 138 #[v] := (hgrow.block p (by omega) (fun e => hvp e.symm)).trans (Hb.ext hE)
 have hs1 := hw1.set_ 0 (.slice (some ⟨gg, 0, none⟩) (c ++ l).length cap1)
 refine ⟨⟨hb0, .slice (some ⟨gg, 0, none⟩) (c ++ l).length cap1, fun k hk => (by injection hk with hk; subst hk; exact hggY), hs1, ?_⟩, ?_⟩
 ·obtain ⟨h1, h2⟩ := hown1
  refine ⟨h1, ?_⟩
  rcases h2 with ⟨h, _⟩ | ⟨g', cap', cur, hv, hb, hg, r⟩
  ·cases h
  ·refine .inr ⟨g', cap', cur, hv, hb, ?_, r⟩
   injection hv with hv; injection hv with hv; injection hv with hv; subst hv
   rw [Below.heap_setCell _ _ _ _ (by simpa using hggp)]
   exact hg
 ·refine ⟨hgrow.os.trans hE.os, hgrow.tape.trans hE.tape, hgrow.output.trans hE.output, ?_, fun k hk hn => ?_⟩
  ·have := hgrow.size
   simp only [World.setCell, Array.size_modify]
   omega
  ·rw [Below.heap_setCell _ _ _ _ (by simpa using (fun e : k = p => hn (e ▸ hb0)))]
   exact (hgrow.block k (by omega) (fun e => hn (hv k e.symm))).trans (hE.block k hk)
set_option maxRecDepth 100000 in
set_option maxHeartbeats 1000000 in
theorem writeByte_any (m : Int) (Y : Nat → Prop) (p : Nat) (l : List UInt8) (hl : l.length ≤ 1099511627776) (w : World) (h : BufW w Y p l) (hY : ∀ k, w.heap.size ≤ k → Y k) :
  Calls Tryz.prog 127 #[.pointer (some ⟨p, 0, none⟩), .int .u8 (m % 256)] w fun e w' => e = .returned (.tuple #[]) ∧ BufW w' Y p (l ++ [bt m]) ∧ KeepY Y w w' := by
 obtain ⟨i0, hi0, hz0, hz1, hz2⟩ := info_parts info5
 obtain ⟨hb0, v, hvY, hb, ho⟩ := h
 have HvY := Lib.hid hvY
 have HY := Lib.hid hY
 clear hvY hY
 obtain ⟨c0, c1⟩ := hb.c1
 have hlt := hb.lt
 have hvp := own_typ (cs := [v]) ho hb (by decide)
 have hE1 : Ext w (w.alloc (.cells #[.int .u8 (m % 256)] 5)) := (Ext.refl w).alloc _
 obtain ⟨vA, vc, rfl, -⟩ := ownB_slice ho
 generalize hv : Value.slice vA l.length vc = v at *
 have Hb := Lib.hid hb
 have Ho := Lib.hid ho
 have Ho1 := Lib.hid (ownsRow_ext ho hE1)
 have HE1 := Lib.hid hE1
 have Hvp := Lib.hid hvp
 clear hb ho hE1 hvp
 subst hv
 go_enter Tryz.func127, Tryz.ntmps127
 go_wp2_with (at_builtin; refine wpList_append_lies _ rfl _ _ _ rfl 0 5 i0 _ 1 1 Tryz.underlying27 hi0 hz0 hz1 hz2 rfl (by omega) (.slice vA l.length vc) l.length (l.map byteV) rfl Ho1.out ⟨w.heap.size, 0, none⟩ 1 1 [.int .u8 (m % 256)] rfl rfl (World.news_of_block (cs := #[.int .u8 (m % 256)]) (t := 5) (fr := (0, 0)) (heap_alloc_new w _)) (by simp [Value.oneCell']) (by omega) (by unfold maxLen; omega) (by omega) (Nat.zero_le _) (w.heap.size + 1) (by simp) ?_; intro gg cap1 w1 hown1 hgrow hat hltg; have f1 : w1.frozen? ⟨p, 0, none⟩ = false := (hgrow.frozen_far ⟨p, 0, none⟩ (by simp; omega) (fun e => Hvp.out e.symm)).trans ((HE1.out.frozen hlt).trans c1); have k0 : w1.cell? ⟨p, 0, none⟩ = some (.slice vA l.length vc) := (hgrow.cell_far ⟨p, 0, none⟩ (by simp; omega) (fun e => Hvp.out e.symm)).trans ((HE1.out.cell hlt).trans c0))
 go_end0
 refine ⟨rfl, buf_step (l := [bt m]) hb0 HvY.out HY.out Hb.out Ho.out HE1.out (by simpa [byteV_bt] using hown1) (by simp) hgrow (by rcases hat with h | h; exact .inl h; exact .inr (by simp; omega))⟩
set_option maxRecDepth 100000 in
set_option maxHeartbeats 1000000 in
theorem write_any (Y : Nat → Prop) (p : Nat) (l m : List UInt8) (A : Option Addr) (n k : Nat) (hl0 : 0 < l.length) (hl : l.length ≤ 1099511627776) (hm : m.length ≤ 1099511627776) (w : World) (h : BufW w Y p l) (hY : ∀ k, w.heap.size ≤ k → Y k) (hv : Bytes w (.slice A n k) m) :
  Calls Tryz.prog 128 #[.pointer (some ⟨p, 0, none⟩), .slice A n k] w fun e w' => ∃ v, e = .returned v ∧ BufW w' Y p (l ++ m) ∧ KeepY Y w w' := by
 obtain ⟨hb0, v, hvY, hb, ho⟩ := h
 have HvY := Lib.hid hvY
 have HY := Lib.hid hY
 clear hvY hY
 obtain ⟨g, cap, rfl, hg⟩ := own_form1 ho hl0
 obtain ⟨gg, cap1, w1, hrun, hown, hgrow, hat⟩ := append_wr 27 Tryz.underlying27 ho (Nat.zero_le _) hv hl hm
 have hvp := own_typ (cs := [_]) ho hb (by decide)
 have hgp : g ≠ p := fun e => hvp (by rw [e]; rfl)
 obtain ⟨c0, c1⟩ := hb.c1
 have hlt := hb.lt
 have k0 : w1.cell? ⟨p, 0, none⟩ = some (.slice (some ⟨g, 0, none⟩) l.length cap) := (hgrow.cell_far ⟨p, 0, none⟩ (by simp; omega) (by simp; omega)).trans c0
 have f1 : w1.frozen? ⟨p, 0, none⟩ = false := (hgrow.frozen_far ⟨p, 0, none⟩ (by simp; omega) (by simp; omega)).trans c1
 have Hb := Lib.hid hb
 have Ho := Lib.hid ho
 have Hw := Lib.hid hown
 clear hb ho hv hown hvp
 go_enter Tryz.func128, Tryz.ntmps128
 go_wp2_with (first | (at_builtin; refine wpList_append_eq rfl _ _ 27 27 rfl _ _ rfl rfl (fun ty => hrun ty) ?_))
 go_ret2
 exact ⟨_, rfl, buf_step (l := m) hb0 HvY.out HY.out Hb.out Ho.out (Ext.refl w) Hw.out (by simp) hgrow (by rcases hat with h | h; exact .inl h; exact .inr (by omega))⟩
set_option maxRecDepth 100000 in
theorem bytes94_any (Y : Nat → Prop) (p : Nat) (l : List UInt8) (hl0 : 0 < l.length) (w : World) (h : BufW w Y p l) : Calls Tryz.prog 94 #[.pointer (some ⟨p, 0, none⟩)] w fun e w' => ∃ r, e = .returned r ∧ (Out l r w ∧ ∀ b o n c, r = .slice (some ⟨b, o, none⟩) n c → Y b) ∧ w' = w := by
 obtain ⟨hb0, v, hvY, hb, ho⟩ := h
 obtain ⟨g, cap, rfl, hg⟩ := own_form1 ho hl0
 obtain ⟨c0, c1⟩ := hb.c1
 have HO : Hid (Out l (.slice (some ⟨g, 0, none⟩) l.length cap) w) := Lib.hid (by
  rcases ho.2 with ⟨h, _⟩ | ⟨g', cap', cur, hv, _, hg, hc, _, _, ht⟩
  ·cases h
  ·injection hv with hv1 hv2 hv3; injection hv1 with hv1; injection hv1 with hv1; subst hv1; subst hv3
   exact Out.of_blk hg (by decide) (by decide) rfl hc (by simpa using ht))
 have hgY : ∀ b o n c, Value.slice (some ⟨g, 0, none⟩) l.length cap = .slice (some ⟨b, o, none⟩) n c → Y b := fun b o n c e => by
  injection e with e
  injection e with e
  injection e with e
  subst e
  exact hvY _ rfl
 have HG := Lib.hid hgY
 clear hb ho hgY hvY
 go_enter Tryz.func94, Tryz.ntmps94
 go_wp2_with fail
 go_ret
 exact ⟨_, rfl, ⟨HO.out, HG.out⟩, rfl⟩
/-- A type within a collection's type. -/
def InT (v : Value) : Prop := v = .nilIface ∨ ∃ t x, v = .iface t x
set_option maxRecDepth 100000 in
set_option maxHeartbeats 1000000 in
theorem wcs_any (kk n : Int) (hn : n ≤ 2147483647) (hn0 : -1 ≤ n) (ki ei : Value) (hk : InT ki) (he : InT ei) (Y : Nat → Prop) (p : Nat) (l : List UInt8) (hl : l.length ≤ 1099511620000) (w : World) (h : BufW w Y p l) (hY : ∀ k, w.heap.size ≤ k → Y k) :
  Calls Tryz.prog 92 #[.agg #[.int .u8 4, .int .i64 kk, .string ⟨#[]⟩, ki, ei], .int .i64 n, .pointer (some ⟨p, 0, none⟩)] w fun e w' => e = .returned .nilIface ∧ BufW w' Y p (l ++ beN n 4) ∧ KeepY Y w w' := by
 have H := Lib.hid h
 have HY := Lib.hid hY
 clear h hY
 rcases hk with rfl | ⟨t1, x1, rfl⟩ <;> rcases he with rfl | ⟨t2, x2, rfl⟩
 all_goals
  go_enter Tryz.func92, Tryz.ntmps92
  go_wp2_with fail
  generalize hW : World.alloc w _ = W1
  have h0 : BufW W1 Y p l ∧ KeepY Y w W1 := by
   rw [← hW]
   exact ⟨H.out.ext ((Ext.refl w).alloc _), KeepY.of_ext ((Ext.refl w).alloc _)⟩
  clear hW
  obtain ⟨hB, x0⟩ := h0
  have s0 := x0.size
  have c1 := Lib.hid (writeByte_any (n / 16777216) Y p l (by omega) W1 hB (fun k hk => HY.out k (by omega)))
  clear hB
  refine c1.out.mono ?_
  rintro e w1 ⟨rfl, h1, x1⟩
  have s1 := x1.size
  have c2 := Lib.hid (writeByte_any (n / 65536) Y p _ (by simp; omega) w1 h1 (fun k hk => HY.out k (by omega)))
  clear h1
  go_wp2_with fail
  refine c2.out.mono ?_
  rintro e w2 ⟨rfl, h2, x2⟩
  have s2 := x2.size
  have c3 := Lib.hid (writeByte_any (n / 256) Y p _ (by simp; omega) w2 h2 (fun k hk => HY.out k (by omega)))
  clear h2
  go_wp2_with fail
  refine c3.out.mono ?_
  rintro e w3 ⟨rfl, h3, x3⟩
  have s3 := x3.size
  have c4 := Lib.hid (writeByte_any n Y p _ (by simp; omega) w3 h3 (fun k hk => HY.out k (by omega)))
  clear h3
  go_wp2_with fail
  refine c4.out.mono ?_
  rintro e w4 ⟨rfl, h4, x4⟩
  have H4 := Lib.hid h4
  clear h4
  go_wp2_with fail
  go_ret
  refine ⟨rfl, ?_, (((x0.trans x1).trans x2).trans x3).trans x4⟩
  rw [be4]
  simpa using H4.out
end Go.Proofs.YtammjbmfiakbnaaGreatDoor
namespace Go.Proofs.YtammjbmfiakbnaaGreatDoor
open Go.RowKit
/-- Each number within is of its kind. -/
def OkV : Nat → Vl → Prop
 |0, _ => True
 |n + 1, V => ScOk V.sc ∧ (∀ k ∈ V.keys, OkV n k) ∧ (∀ k ∈ V.kids, OkV n k)
theorem VlAt.ok {X : Nat → Prop} {w : World} : ∀ (m : Nat) (vs : List Value) (V : Vl), VlAt X m w vs V → ∀ n, OkV n V
 |_, _, _, _, 0 => trivial
 |0, _, _, h, _ => h.elim
 |m + 1, vs, V, h, n + 1 => by
  obtain ⟨A, c, A1, c1, A2, c2, hv, h1, h2, h3, h4, h5, h6, hs, hd, ⟨cs, g1, g2, g3⟩, ⟨ds, e1, e2, e3⟩⟩ := h
  refine ⟨hs, fun k hk => ?_, fun k hk => ?_⟩
  ·obtain ⟨i, hi⟩ := List.mem_iff_getElem?.1 hk
   exact VlAt.ok m _ _ (g3 i k hi) n
  ·obtain ⟨i, hi⟩ := List.mem_iff_getElem?.1 hk
   exact VlAt.ok m _ _ (e3 i k hi) n
/-- gocql.Marshal's contract, so deep. -/
def MarP (n : Nat) : Prop := ∀ (w : World) (I G : Value) (T : Ty) (V : Vl) (X : Nat → Prop), (∀ b, X b → b < w.heap.size) → InfoAt (fun _ => False) n w I T → GivenAt X n w G T V → Good n T → GoodV n T V → OkV n V →
 Calls Tryz.prog 27 #[I, G] w (MarQ X (enc n T V) w)
theorem Out.keepY {Y : Nat → Prop} {l : List UInt8} {r : Value} {w w' : World} (h : Out l r w) (hk : KeepY Y w w') (hf : ∀ b o n c, r = .slice (some ⟨b, o, none⟩) n c → b < w.heap.size → ¬ Y b) : Out l r w' := by
 obtain ⟨b, o, c, cs, t, fr, rfl, hc, hb, h1, h2, hl⟩ := h
 have hlt := (Array.getElem?_eq_some_iff.1 hb).1
 exact ⟨b, o, c, cs, t, fr, rfl, hc, (hk.block b hlt (hf b o _ c rfl hlt)).trans hb, h1, h2, hl⟩
set_option maxRecDepth 100000 in
set_option maxHeartbeats 1000000 in
theorem zzitem_any (n : Nat) (hn : n ≤ 5) (hM : MarP n) (kk : Int) (ki ei : Value) (hki : InT ki) (hei : InT ei) (I G : Value) (T : Ty) (V : Vl) (Y : Nat → Prop) (p : Nat) (l : List UInt8) (hl : l.length ≤ 1099511600000) (w : World)
  (hI : InfoAt (fun _ => False) n w I T) (hG : GivenAt Y n w G T V) (hgT : Good n T) (hgV : GoodV n T V) (hok : OkV n V) (hB : BufW w Y p l) (hY : ∀ k, w.heap.size ≤ k → Y k) :
  Calls Tryz.prog 93 #[.agg #[.int .u8 4, .int .i64 kk, .string ⟨#[]⟩, ki, ei], I, G, .pointer (some ⟨p, 0, none⟩)] w fun e w' => e = .returned .nilIface ∧ BufW w' Y p (l ++ (beN ((enc n T V).length : Int) 4 ++ enc n T V)) ∧ KeepY Y w w' := by
 have hlen := Nat.lt_of_le_of_lt (Nat.le_trans (enc_len n T V hgT hgV) (bnd_mono hn)) bnd5
 have HB := Lib.hid hB
 have HY := Lib.hid hY
 have hmar := fun W (he : Ext w W) => hM W I G T V (fun b => Y b ∧ b < w.heap.size) (fun b hb => Nat.lt_of_lt_of_le hb.2 he.size) (InfoAt.onx (Onx.of_ext he _) _ _ _ hI) (GivenAt.trans (Trans.onx (Onx.of_ext he _)) _ _ _ _ (GivenAt.trans (Trans.weak (fun b hb => .inl hb.1)) _ _ _ _ hG)) hgT hgV hok
 generalize enc n T V = L at *
 have Hmar := Lib.hid hmar
 clear hmar hI hG hB hY hM hgT hgV hok
 have Hwc := Lib.hid (fun (Y' : Nat → Prop) (W : World) hB hU => wcs_any kk (L.length : Int) (by omega) (by omega) ki ei hki hei Y' p l (by omega) W hB hU)
 rcases hki with rfl | ⟨t1, x1, rfl⟩ <;> rcases hei with rfl | ⟨t2, x2, rfl⟩
 all_goals
  go_enter Tryz.func93, Tryz.ntmps93
  go_wp2_with fail
  generalize hW : World.alloc w _ = W1
  have h0 := (show Blk W1 w.heap.size 98 _ by rw [← hW]; exact Blk.new w 98 _)
  have hE1 : Ext w W1 := by rw [← hW]; exact (Ext.refl w).alloc _
  clear hW
  have HQ := Lib.hid h0
  have HE1 := Lib.hid hE1
  refine (Hmar.out W1 hE1).mono ?_
  clear h0 hE1
  rintro e w2 ⟨r, rfl, ⟨hO, hF⟩, hx⟩
  obtain ⟨b, o, c, rfl, hc, hb, hcell⟩ := hO.form
  have hq : ∀ W : World, (binOp .eql 27 (.slice (some ⟨b, o, none⟩) L.length c) (.slice none 0 0)).run Tryz.prog W = .ok (.bool false) W := fun W => Lib.run_eql_slice_nil W 27 5 (some ⟨b, o, none⟩) L.length c 0 0 Tryz.underlying27
  obtain ⟨Y', hY'⟩ : ∃ Y' : Nat → Prop, Y' = fun k => (Y k ∧ k < w.heap.size) ∨ w2.heap.size ≤ k := ⟨_, rfl⟩
  have hE2 := HE1.out.trans hx
  have hB2 : BufW w2 Y' p l := by
   have h1 : BufW w Y' p l := HB.out.weak (fun k hk hy => by rw [hY']; exact .inl ⟨hy, hk⟩)
   exact h1.ext hE2
  have hup : ∀ k, w2.heap.size ≤ k → Y' k := fun k hk => by rw [hY']; exact .inr hk
  have hQ2 := HQ.out.ext hx
  have q0 := hQ2.cell 0
  have q1 := hQ2.cell 1
  have q2 := hQ2.cell 2
  have q3 := hQ2.cell 3
  have q4 := hQ2.cell 4
  have Hw := Lib.hid (Hwc.out Y' w2 hB2 hup)
  have HO := Lib.hid hO
  have HF := Lib.hid hF
  have HE2 := Lib.hid hE2
  have HY' := Lib.hid hY'
  have Hup := Lib.hid hup
  clear hO hF hx hcell hE2 hB2 hQ2 hY' hup
  go_wp2_with fail
  refine Hw.out.mono ?_
  rintro e w3 ⟨rfl, hB3, hk3⟩
  have hO3 : Out L (.slice (some ⟨b, o, none⟩) L.length c) w3 := HO.out.keepY hk3 (fun b' o' n' c' e hlt => by
   rw [HY'.out]
   rintro (h | h)
   ·exact HF.out b' o' n' c' e h
   ·omega)
  have hs3 := hk3.size
  have Hwr := Lib.hid (write_any Y' p _ L (some ⟨b, o, none⟩) L.length c (by simp [beN_len]) (by simp [beN_len]; omega) (by omega) w3 hB3 (fun k hk => Hup.out k (by omega)) hO3.bytes)
  have Hk3 := Lib.hid hk3
  clear hB3 hk3 hO3 q0 q1 q2 q3 q4 hq
  go_wp2_with fail
  refine Hwr.out.mono ?_
  rintro e w4 ⟨v4, rfl, hB4, hk4⟩
  have HB4 := Lib.hid hB4
  have HK4 := Lib.hid (Hk3.out.trans hk4)
  clear hB4 hk4
  go_wp2_with fail
  go_ret
  refine ⟨rfl, ?_, (KeepY.of_ext HE2.out).trans (HK4.out.weak (fun k hk hy => ?_))⟩
  ·rw [← List.append_assoc]
   refine HB4.out.weak (fun k hk hy => ?_)
   rw [HY'.out] at hy
   rcases hy with hy | hy
   ·exact hy.1
   ·exact HY.out k (by have := HE2.out.size; omega)
  ·rw [HY'.out] at hy
   rcases hy with hy | hy
   ·exact hy.1
   ·omega
end Go.Proofs.YtammjbmfiakbnaaGreatDoor
namespace Go.Proofs.YtammjbmfiakbnaaGreatDoor
open Go.RowKit
/-- A part with its length ahead. -/
noncomputable def itm (n : Nat) (t : Ty) (k : Vl) : List UInt8 := beN ((enc n t k).length : Int) 4 ++ enc n t k
theorem itm_len {n : Nat} (hn : n ≤ 5) {t : Ty} {k : Vl} (ht : Good n t) (hk : GoodV n t k) : (itm n t k).length ≤ 4 + bnd 5 := by
 have := Nat.le_trans (enc_len n t k ht hk) (bnd_mono hn)
 simp only [itm, List.length_append, beN_len]
 omega
theorem items_len {n : Nat} (hn : n ≤ 5) {t : Ty} (ht : Good n t) (l : List Vl) (hl : ∀ k ∈ l, GoodV n t k) (h20 : l.length ≤ 20) : (l.flatMap (itm n t)).length ≤ 20 * (4 + bnd 5) :=
 Nat.le_trans (flat_len (itm n t) (4 + bnd 5) l (fun k hk => itm_len hn ht (hl k hk))) (Nat.mul_le_mul_right _ h20)
theorem take_snoc {α : Type} {l : List α} {i : Nat} {k : α} (h : l[i]? = some k) : l.take (i + 1) = l.take i ++ [k] := by
 rw [List.take_add_one, h]
 rfl
theorem KeepY.drew {Y : Nat → Prop} {w w' : World} (h : KeepY Y w w') : KeepY Y w w'.drew := ⟨h.os, h.tape, h.output, h.size, h.block⟩
theorem KeepY.onx {Y : Nat → Prop} {w w' : World} (h : KeepY Y w w') : Onx Y w w' := ⟨h.size, fun b hb hn => h.block b hb hn⟩
set_option maxRecDepth 100000 in
set_option maxHeartbeats 2000000 in
theorem mar_list (n : Nat) (hn : n ≤ 4) (hM : MarP n) (kk : Int) (te : TypeId) (ve : Value) (t : Ty) (ks : List Vl) (h20 : ks.length ≤ 20) (A : Addr) (c : Nat) (gs : List Value) (w : World) (X : Nat → Prop) (hX : ∀ b, X b → b < w.heap.size) (hI : InfoAt (fun _ => False) n w (.iface te ve) t)
  (hc : ks.length ≤ c) (hcm : c ≤ maxLen) (hgl : gs.length = ks.length) (hseg : SegR X w (some A) gs) (hkids : ∀ (i : Nat) (k : Vl), ks[i]? = some k → ∃ g, gs[i]? = some g ∧ GivenAt X n w g t k) (hgT : Good n t) (hgV : ∀ k ∈ ks, GoodV n t k) (hok : ∀ k ∈ ks, OkV n k) :
  Calls Tryz.prog 63 #[.iface 98 (.agg #[.int .u8 4, .int .i64 kk, .string ⟨#[]⟩, .nilIface, .iface te ve]), .iface 151 (.slice (some A) ks.length c)] w (MarQ X (beN (ks.length : Int) 4 ++ ks.flatMap (itm n t)) w) := by
 have hq : ∀ W : World, (binOp .eql 151 (.slice (some A) ks.length c) (.slice none 0 0)).run Tryz.prog W = .ok (.bool false) W := fun W => Lib.run_eql_slice_nil W 151 20 (some A) ks.length c 0 0 Tryz.underlying151
 have HXX := Lib.hid hX
 have HI := Lib.hid hI
 have HS := Lib.hid hseg
 have HK := Lib.hid hkids
 have HG := Lib.hid hgT
 have HV := Lib.hid hgV
 have HOK := Lib.hid hok
 have HM := Lib.hid hM
 have HGL := Lib.hid hgl
 clear hX hI hseg hkids hgT hgV hM hgl hok
 unfold maxLen at hcm
 go_enter Tryz.func63, Tryz.ntmps63
 go_wp2_with fail
 generalize hW : World.alloc _ _ = W2
 have h0 : ∃ W1 : World, W1.heap.size = w.heap.size + 1 + 1 ∧ Blk W1 w.heap.size 98 #[.int .u8 4, .int .i64 kk, .string ⟨#[]⟩, .nilIface, .iface te ve] ∧ Ext w W1 ∧ Blk W2 (w.heap.size + 1 + 1) 138 #[.slice none 0 0] ∧ Ext W1 W2 := by
  rw [← hW]
  exact ⟨_, by simp, (Blk.new w 98 _).alloc _, ((Ext.refl w).alloc _).alloc _, Blk.new' _ _ 138 _ (by simp), (Ext.refl _).alloc _⟩
 clear hW
 obtain ⟨W1, hsz, hQ, hE1, hP, hE2⟩ := h0
 obtain ⟨p, hp⟩ : ∃ p, p = w.heap.size + 1 + 1 := ⟨_, rfl⟩
 rw [← hp] at hsz hP ⊢
 obtain ⟨Y, hYd⟩ : ∃ Y : Nat → Prop, Y = fun k => p ≤ k := ⟨_, rfl⟩
 have hYu : ∀ k, W1.heap.size ≤ k → Y k := fun k hk => by rw [hYd]; show p ≤ k; omega
 have hYl : ∀ k, Y k → W1.heap.size ≤ k := fun k hk => by rw [hYd] at hk; have : p ≤ k := hk; omega
 have hB2 : BufW W2 Y p [] := ⟨hYu p (by omega), .slice none 0 0, (fun k hk => by cases hk), hP, World.ownsRow_nil _ _ _ _⟩
 have Hw := Lib.hid (wcs_any kk (ks.length : Int) (by omega) (by omega) .nilIface (.iface te ve) (.inl rfl) (.inr ⟨_, _, rfl⟩) Y p [] (by simp) W2 hB2 (fun k hk => hYu k (by have := hE2.size; omega)))
 have HQ := Lib.hid hQ
 have HE1 := Lib.hid hE1
 have HE2 := Lib.hid hE2
 have HYu := Lib.hid hYu
 have HYl := Lib.hid hYl
 have Hsz := Lib.hid hsz
 have Hp := Lib.hid hp
 have q0 := (hQ.ext hE2).cell 0
 have q1 := (hQ.ext hE2).cell 1
 have q2 := (hQ.ext hE2).cell 2
 have q3 := (hQ.ext hE2).cell 3
 have q4 := (hQ.ext hE2).cell 4
 have hQl := hQ.lt
 clear hQ hE1 hP hE2 hYd hYu hYl hB2 hsz hp
 refine Hw.out.mono ?_
 rintro e w3 ⟨rfl, hB3, hk3⟩
 have HB3 := Lib.hid hB3
 have HK3 := Lib.hid ((KeepY.of_ext (Y := Y) HE2.out).trans hk3)
 clear hB3 hk3 q0 q1 q2 q3 q4
 go_wp2_with fail
 go_loopw [14] (fun v wr => ∃ i : Nat, i ≤ ks.length ∧ v = .int .i64 i ∧ BufW wr Y p (beN (ks.length : Int) 4 ++ (ks.take i).flatMap (itm n t)) ∧ KeepY Y W1 wr) (fun v _ => ks.length - (intOf v).toNat)
 case atStart => exact ⟨0, Nat.zero_le _, rfl, by simpa using HB3.out, HK3.out⟩
 case round =>
  obtain ⟨i, hi, rfl, hB, hKp⟩ := hrel
  have HB := Lib.hid hB
  have HKp := Lib.hid hKp
  have hEr := Lib.hid (hKp.ext (Ext.refl W1) HYl.out)
  clear hB hKp
  by_cases hlt : (i : Int) < ks.length
  ·have hi' : i < ks.length := by omega
   obtain ⟨k, hk⟩ : ∃ k, ks[i]? = some k := ⟨_, List.getElem?_eq_getElem hi'⟩
   obtain ⟨g, hg, hG⟩ := HK.out i k hk
   obtain ⟨b, o, hA, hb, hXb, hcell⟩ := HS.out (by intro e; have := HGL.out; rw [e] at this; simp at this; omega)
   injection hA with hA
   subst hA
   have hc0 := (HE1.out.trans hEr.out).cellS (hcell i g hg)
   have hQr := HQ.out.ext hEr.out
   have q0 := hQr.cell 0
   have q1 := hQr.cell 1
   have q2 := hQr.cell 2
   have q3 := hQr.cell 3
   have q4 := hQr.cell 4
   have hGr : GivenAt Y n wr.drew g t k := GivenAt.trans (Trans.onx HKp.out.drew.onx) _ _ _ _ (GivenAt.trans (Trans.weak (fun b hb => .inr (HYl.out b hb))) _ _ _ _ (GivenAt.trans (Trans.onx (Onx.of_ext HE1.out X)) _ _ _ _ hG))
   have hIr := InfoAt.onx (Onx.of_ext (HE1.out.trans hEr.out).drew _) _ _ _ HI.out
   have hszr := HKp.out.size
   have hbl := items_len (by omega) HG.out (ks.take i) (fun k hk => HV.out k (List.mem_of_mem_take hk)) (by rw [List.length_take]; omega)
   have hb5 := bnd5
   have Hz := Lib.hid (zzitem_any n (by omega) HM.out kk .nilIface (.iface te ve) (.inl rfl) (.inr ⟨_, _, rfl⟩) (.iface te ve) g t k Y p _ (by rw [List.length_append, beN_len]; omega) wr.drew hIr hGr HG.out (HV.out k (List.mem_of_getElem? hk)) (HOK.out k (List.mem_of_getElem? hk)) HB.out (fun k hk => HYu.out k (by have : wr.heap.size ≤ k := hk; omega)))
   clear hbl hb5
   have Hk := Lib.hid hk
   clear hk hg hG hGr hIr hQr hcell
   go_wp2_with fail
   go_region_with (refine Hz.out.mono ?_; rintro e w5 ⟨rfl, hB5, hk5⟩)
   all_goals
    have HB5 : Hid (BufW w5 Y p (beN (ks.length : Int) 4 ++ (ks.take (i + 1)).flatMap (itm n t))) := Lib.hid (by
     rw [take_snoc Hk.out, List.flatMap_append, ← List.append_assoc]
     simpa [itm] using hB5)
    have HK5 := Lib.hid (HKp.out.drew.trans hk5)
    clear hB5 hk5
    go_wp2_with fail
    go_roundw
    case rel => exact ⟨i + 1, by omega, by go_num, HB5.out, HK5.out⟩
    case measure => simp [intOf]; omega
  ·obtain rfl : i = ks.length := by omega
   rw [List.take_length] at HB
   have Hy := Lib.hid (bytes94_any Y p _ (by rw [List.length_append, beN_len]; omega) wr HB.out)
   have HF := Lib.hid hEr.out
   clear hEr
   go_wp2_with fail
   refine Hy.out.mono ?_
   rintro e w6 ⟨r, rfl, ⟨hO, hyY⟩, rfl⟩
   have HO := Lib.hid hO
   have HyY := Lib.hid hyY
   clear hO hyY
   go_wp2_with fail
   go_ret2
   exact ⟨r, rfl, ⟨HO.out, fun b o n c e hx => by have h1 := HyY.out b o n c e; have h2 := HYl.out b h1; have h3 := HXX.out b hx; have := HE1.out.size; omega⟩, HE1.out.trans HF.out⟩
end Go.Proofs.YtammjbmfiakbnaaGreatDoor
namespace Go.Proofs.YtammjbmfiakbnaaGreatDoor
open Go.RowKit
theorem GivenAt.iface {X : Nat → Prop} {n : Nat} {w : World} {G : Value} {T : Ty} {V : Vl} (h : GivenAt X n w G T V) (hn : V.sc.nul = false) : ∃ t v, G = .iface t v := by
 cases n with
 |zero => exact h.elim
 |succ n =>
  rcases h with ⟨h, _⟩ | ⟨_, h⟩
  ·rw [hn] at h; cases h
  ·rcases h with ⟨_, h⟩ | ⟨_, A, c, gs, h, _⟩ | ⟨_, A, c, gs, h, _⟩ | ⟨_, A, c, gs, h, _⟩ | ⟨_, b, gs, h, _⟩
   ·rcases h with ⟨_, h⟩ | ⟨_, v, h, _⟩ | ⟨_, v, h, _⟩ | ⟨_, h⟩ | ⟨_, h⟩ | ⟨_, h⟩ | ⟨_, h⟩ | ⟨_, h⟩ | ⟨_, h⟩ | ⟨_, h⟩ | ⟨_, h⟩ | ⟨_, g, z, h, _⟩ | ⟨_, g, z, h, _⟩ | ⟨_, h⟩ | ⟨_, h⟩ <;> exact ⟨_, _, h⟩
   all_goals exact ⟨_, _, h⟩
theorem GoodV.nul {n : Nat} {T : Ty} {V : Vl} (h : GoodV n T V) : V.sc.nul = false := by
 cases n with
 |zero => exact h.elim
 |succ n => exact h.1
/-- A pair of parts. -/
noncomputable def itm2 (n : Nat) (t t' : Ty) (p : Vl × Vl) : List UInt8 := itm n t p.1 ++ itm n t' p.2
theorem items2_len {n : Nat} (hn : n ≤ 5) {t t' : Ty} (ht : Good n t) (ht' : Good n t') (l : List (Vl × Vl)) (hl : ∀ k ∈ l, GoodV n t k.1 ∧ GoodV n t' k.2) (h20 : l.length ≤ 20) : (l.flatMap (itm2 n t t')).length ≤ 20 * (2 * (4 + bnd 5)) :=
 Nat.le_trans (flat_len (itm2 n t t') (2 * (4 + bnd 5)) l (fun k hk => by
  have h1 := itm_len hn ht (hl k hk).1
  have h2 := itm_len hn ht' (hl k hk).2
  simp only [itm2, List.length_append]
  omega)) (Nat.mul_le_mul_right _ h20)
set_option maxRecDepth 100000 in
set_option maxHeartbeats 4000000 in
theorem mar_map (n : Nat) (hn : n ≤ 4) (hM : MarP n) (kk : Int) (te : TypeId) (ve : Value) (te' : TypeId) (ve' : Value) (t t' : Ty) (ks ds : List Vl) (hlen : ks.length = ds.length) (h20 : ks.length ≤ 20) (A : Addr) (c : Nat) (gs : List Value) (w : World) (X : Nat → Prop) (hX : ∀ b, X b → b < w.heap.size)
  (hI : InfoAt (fun _ => False) n w (.iface te ve) t) (hI' : InfoAt (fun _ => False) n w (.iface te' ve') t') (hc : ks.length ≤ c) (hcm : c ≤ maxLen) (hgl : gs.length = ks.length * 2) (hseg : SegR X w (some A) gs)
  (hkids : ∀ (i : Nat) (a b : Vl), ks[i]? = some a → ds[i]? = some b → ∃ g g', gs[i * 2]? = some g ∧ gs[i * 2 + 1]? = some g' ∧ GivenAt X n w g t a ∧ GivenAt X n w g' t' b) (hgT : Good n t) (hgT' : Good n t') (hgV : ∀ k ∈ ks, GoodV n t k) (hgV' : ∀ k ∈ ds, GoodV n t' k) (hok : ∀ k ∈ ks, OkV n k) (hok' : ∀ k ∈ ds, OkV n k) :
  Calls Tryz.prog 64 #[.iface 98 (.agg #[.int .u8 4, .int .i64 kk, .string ⟨#[]⟩, .iface te ve, .iface te' ve']), .iface 148 (.slice (some A) ks.length c)] w (MarQ X (beN (ks.length : Int) 4 ++ (ks.zip ds).flatMap (itm2 n t t')) w) := by
 have hq : ∀ W : World, (binOp .eql 148 (.slice (some A) ks.length c) (.slice none 0 0)).run Tryz.prog W = .ok (.bool false) W := fun W => Lib.run_eql_slice_nil W 148 150 (some A) ks.length c 0 0 Tryz.underlying148
 have HXX := Lib.hid hX
 have HI := Lib.hid hI
 have HI' := Lib.hid hI'
 have HS := Lib.hid hseg
 have HK := Lib.hid hkids
 have HG := Lib.hid hgT
 have HG' := Lib.hid hgT'
 have HV := Lib.hid hgV
 have HOK := Lib.hid hok
 have HOK' := Lib.hid hok'
 have HV' := Lib.hid hgV'
 have HM := Lib.hid hM
 have HGL := Lib.hid hgl
 have Hlen := Lib.hid hlen
 clear hX hI hI' hseg hkids hgT hgT' hgV hgV' hM hgl hlen hok hok'
 unfold maxLen at hcm
 go_enter Tryz.func64, Tryz.ntmps64
 go_wp2_with fail
 generalize hW : World.alloc _ _ = W2
 have h0 : ∃ W1 : World, W1.heap.size = w.heap.size + 1 + 1 ∧ Blk W1 w.heap.size 98 #[.int .u8 4, .int .i64 kk, .string ⟨#[]⟩, .iface te ve, .iface te' ve'] ∧ Ext w W1 ∧ Blk W2 (w.heap.size + 1 + 1) 138 #[.slice none 0 0] ∧ Ext W1 W2 := by
  rw [← hW]
  exact ⟨_, by simp, (Blk.new w 98 _).alloc _, ((Ext.refl w).alloc _).alloc _, Blk.new' _ _ 138 _ (by simp), (Ext.refl _).alloc _⟩
 clear hW
 obtain ⟨W1, hsz, hQ, hE1, hP, hE2⟩ := h0
 obtain ⟨p, hp⟩ : ∃ p, p = w.heap.size + 1 + 1 := ⟨_, rfl⟩
 rw [← hp] at hsz hP ⊢
 obtain ⟨Y, hYd⟩ : ∃ Y : Nat → Prop, Y = fun k => p ≤ k := ⟨_, rfl⟩
 have hYu : ∀ k, W1.heap.size ≤ k → Y k := fun k hk => by rw [hYd]; show p ≤ k; omega
 have hYl : ∀ k, Y k → W1.heap.size ≤ k := fun k hk => by rw [hYd] at hk; have : p ≤ k := hk; omega
 have hB2 : BufW W2 Y p [] := ⟨hYu p (by omega), .slice none 0 0, (fun k hk => by cases hk), hP, World.ownsRow_nil _ _ _ _⟩
 have Hw := Lib.hid (wcs_any kk (ks.length : Int) (by omega) (by omega) (.iface te ve) (.iface te' ve') (.inr ⟨_, _, rfl⟩) (.inr ⟨_, _, rfl⟩) Y p [] (by simp) W2 hB2 (fun k hk => hYu k (by have := hE2.size; omega)))
 have HQ := Lib.hid hQ
 have HE1 := Lib.hid hE1
 have HE2 := Lib.hid hE2
 have HYu := Lib.hid hYu
 have HYl := Lib.hid hYl
 have Hsz := Lib.hid hsz
 have Hp := Lib.hid hp
 have q0 := (hQ.ext hE2).cell 0
 have q1 := (hQ.ext hE2).cell 1
 have q2 := (hQ.ext hE2).cell 2
 have q3 := (hQ.ext hE2).cell 3
 have q4 := (hQ.ext hE2).cell 4
 have hQl := hQ.lt
 clear hQ hE1 hP hE2 hYd hYu hYl hB2 hsz hp
 refine Hw.out.mono ?_
 rintro e w3 ⟨rfl, hB3, hk3⟩
 have HB3 := Lib.hid hB3
 have HK3 := Lib.hid ((KeepY.of_ext (Y := Y) HE2.out).trans hk3)
 clear hB3 hk3 q0 q1 q2 q3 q4
 go_wp2_with fail
 go_loopw [62] (fun v wr => ∃ i : Nat, i ≤ ks.length ∧ v = .int .i64 i ∧ BufW wr Y p (beN (ks.length : Int) 4 ++ ((ks.zip ds).take i).flatMap (itm2 n t t')) ∧ KeepY Y W1 wr) (fun v _ => ks.length - (intOf v).toNat)
 case atStart => exact ⟨0, Nat.zero_le _, rfl, by simpa using HB3.out, HK3.out⟩
 case round =>
  obtain ⟨i, hi, rfl, hB, hKp⟩ := hrel
  have HB := Lib.hid hB
  have HKp := Lib.hid hKp
  have hEr := Lib.hid (hKp.ext (Ext.refl W1) HYl.out)
  clear hB hKp
  by_cases hlt : (i : Int) < ks.length
  ·have hi' : i < ks.length := by omega
   obtain ⟨a, ha⟩ : ∃ a, ks[i]? = some a := ⟨_, List.getElem?_eq_getElem hi'⟩
   obtain ⟨d, hd⟩ : ∃ d, ds[i]? = some d := ⟨_, List.getElem?_eq_getElem (by have := Hlen.out; omega)⟩
   obtain ⟨g, g', hg, hg', hG, hG'⟩ := HK.out i a d ha hd
   have ga := HV.out a (List.mem_of_getElem? ha)
   have gd := HV'.out d (List.mem_of_getElem? hd)
   obtain ⟨tg, vg, rfl⟩ := hG.iface ga.nul
   obtain ⟨tg', vg', rfl⟩ := hG'.iface gd.nul
   obtain ⟨b, o, hA, hb, hXb, hcell⟩ := HS.out (by intro e; have := HGL.out; rw [e] at this; simp at this; omega)
   injection hA with hA
   subst hA
   have hc0 := (HE1.out.trans hEr.out).cellS (hcell (i * 2) _ hg)
   have hc1 := (HE1.out.trans hEr.out).cellS (hcell (i * 2 + 1) _ hg')
   rw [← Nat.add_assoc] at hc1
   have hGr := GivenAt.trans (Trans.onx HKp.out.onx) _ _ _ _ (GivenAt.trans (Trans.weak (fun b hb => .inr (HYl.out b hb))) _ _ _ _ (GivenAt.trans (Trans.onx (Onx.of_ext HE1.out X)) _ _ _ _ hG))
   have hGr' := GivenAt.trans (Trans.onx HKp.out.onx) _ _ _ _ (GivenAt.trans (Trans.weak (fun b hb => .inr (HYl.out b hb))) _ _ _ _ (GivenAt.trans (Trans.onx (Onx.of_ext HE1.out X)) _ _ _ _ hG'))
   have HGr := Lib.hid hGr
   have HGr' := Lib.hid hGr'
   have Hga := Lib.hid ga
   have Hoa := Lib.hid (HOK.out a (List.mem_of_getElem? ha))
   have Hod := Lib.hid (HOK'.out d (List.mem_of_getElem? hd))
   have Hgd := Lib.hid gd
   have Ha := Lib.hid ha
   have Hd := Lib.hid hd
   clear hGr hGr' ga gd ha hd hg hg' hG hG' hcell
   go_upto_region 22 with fail
   generalize hW : World.alloc wr _ = W5
   have h0 : Blk W5 wr.heap.size 150 #[.iface tg vg, .iface tg' vg'] ∧ Ext wr W5 ∧ W5.heap.size = wr.heap.size + 1 := by
    rw [← hW]
    exact ⟨Blk.new wr 150 _, (Ext.refl wr).alloc _, by simp⟩
   clear hW hc0 hc1
   obtain ⟨hR, hE5, hsz5⟩ := h0
   obtain ⟨Z, hZ⟩ : ∃ Z : Nat → Prop, Z = fun k => (Y k ∧ k < wr.heap.size) ∨ wr.heap.size + 1 ≤ k := ⟨_, rfl⟩
   have hZu : ∀ k, W5.heap.size ≤ k → Z k := fun k hk => by rw [hZ]; exact .inr (by omega)
   have hZY : ∀ k, Z k → Y k := fun k hk => by
    rw [hZ] at hk
    rcases hk with hk | hk
    ·exact hk.1
    ·exact HYu.out k (by have := HKp.out.size; have : wr.heap.size + 1 ≤ k := hk; omega)
   have hZw : ∀ k, Z k → Y k ∨ wr.heap.size ≤ k := fun k hk => .inl (hZY k hk)
   have hZR : ¬ Z wr.heap.size := by
    rw [hZ]
    rintro (h | h)
    ·exact absurd h.2 (Nat.lt_irrefl _)
    ·omega
   have hBZ : BufW W5 Z p _ := (HB.out.weak (Y' := Z) (fun k hk hy => by rw [hZ]; exact .inl ⟨hy, hk⟩)).ext hE5
   have hG5 := GivenAt.trans (Trans.onx (Onx.of_ext hE5 _)) _ _ _ _ (GivenAt.trans (Trans.weak hZw) _ _ _ _ HGr.out)
   have hG5' := GivenAt.trans (Trans.onx (Onx.of_ext hE5 _)) _ _ _ _ (GivenAt.trans (Trans.weak hZw) _ _ _ _ HGr'.out)
   have hI5 := InfoAt.onx (Onx.of_ext ((HE1.out.trans hEr.out).trans hE5) _) _ _ _ HI.out
   have hbl := items2_len (by omega) HG.out HG'.out ((ks.zip ds).take i) (fun k hk => by
    have hk := List.mem_of_mem_take hk
    exact ⟨HV.out _ (List.of_mem_zip hk).1, HV'.out _ (List.of_mem_zip hk).2⟩) (by rw [List.length_take]; omega)
   have hb5 := bnd5
   have hil := itm_len (by omega) HG.out Hga.out
   have Hz := Lib.hid (zzitem_any n (by omega) HM.out kk (.iface te ve) (.iface te' ve') (.inr ⟨_, _, rfl⟩) (.inr ⟨_, _, rfl⟩) (.iface te ve) (.iface tg vg) t a Z p _ (by rw [List.length_append, beN_len]; omega) W5 hI5 hG5 HG.out Hga.out Hoa.out hBZ hZu)
   have hQ5 := (HQ.out.ext hEr.out).ext hE5
   have q0 := hQ5.cell 0
   have q1 := hQ5.cell 1
   have q2 := hQ5.cell 2
   have q3 := hQ5.cell 3
   have q4 := hQ5.cell 4
   obtain ⟨r0, r1⟩ := hR.c2
   have HR := Lib.hid hR
   have HE5 := Lib.hid hE5
   have HZu := Lib.hid hZu
   have HZY := Lib.hid hZY
   have HZR := Lib.hid hZR
   have HG5' := Lib.hid hG5'
   have HQ5 := Lib.hid hQ5
   have Hbl := Lib.hid hbl
   have Hil := Lib.hid hil
   have Hb5 := Lib.hid hb5
   have Hsz5 := Lib.hid hsz5
   clear hR hE5 hsz5 hZ hZu hZY hZw hZR hBZ hG5 hG5' hI5 hbl hb5 hil hQ5
   go_wp2_with fail
   refine Hz.out.mono ?_
   rintro e w6 ⟨rfl, hB6, hk6⟩
   have hs6 := hk6.size
   have hR6 : Blk w6 wr.heap.size 150 #[.iface tg vg, .iface tg' vg'] := (hk6.block _ HR.out.lt HZR.out).trans HR.out
   have hE6 : Ext W1 w6 := (hk6.weak (Y' := Y) (fun k _ h => HZY.out k h)).ext (hEr.out.trans HE5.out) HYl.out
   have hG6' := GivenAt.trans (Trans.onx hk6.onx) _ _ _ _ HG5'.out
   have hI6' := InfoAt.onx (Onx.of_ext (HE1.out.trans hE6) _) _ _ _ HI'.out
   have Hz' := Lib.hid (zzitem_any n (by omega) HM.out kk (.iface te ve) (.iface te' ve') (.inr ⟨_, _, rfl⟩) (.inr ⟨_, _, rfl⟩) (.iface te' ve') (.iface tg' vg') t' d Z p _ (by
    have h1 := Hbl.out
    have h2 := Hil.out
    have h3 := Hb5.out
    simp only [itm] at h2
    rw [List.length_append, List.length_append, beN_len]; omega) w6 hI6' hG6' HG'.out Hgd.out Hod.out hB6 (fun k hk => HZu.out k (by omega)))
   clear q0 q1 q2 q3 q4 r0 r1
   have hQ6 := HQ.out.ext hE6
   have q0 := hQ6.cell 0
   have q1 := hQ6.cell 1
   have q2 := hQ6.cell 2
   have q3 := hQ6.cell 3
   have q4 := hQ6.cell 4
   obtain ⟨r0, r1⟩ := hR6.c2
   have HK6 := Lib.hid hk6
   clear hB6 hk6 hR6 hE6 hG6' hI6' hQ6
   go_wp2_with fail
   refine Hz'.out.mono ?_
   rintro e w7 ⟨rfl, hB7, hk7⟩
   have HB7 : Hid (BufW w7 Y p (beN (ks.length : Int) 4 ++ ((ks.zip ds).take (i + 1)).flatMap (itm2 n t t'))) := Lib.hid (by
    have hz : (ks.zip ds)[i]? = some (a, d) := by rw [List.getElem?_zip_eq_some]; exact ⟨Ha.out, Hd.out⟩
    rw [take_snoc hz, List.flatMap_append, ← List.append_assoc]
    have h7 := hB7.weak (Y' := Y) (fun k _ h => HZY.out k h)
    simpa [itm2, itm] using h7)
   have HK7 := Lib.hid (HKp.out.trans ((KeepY.of_ext HE5.out).trans ((HK6.out.trans hk7).weak (Y' := Y) (fun k _ h => HZY.out k h))))
   clear hB7 hk7 q0 q1 q2 q3 q4 r0 r1
   go_wp2_with fail
   go_roundw
   case rel => exact ⟨i + 1, by omega, by go_num, HB7.out, HK7.out⟩
   case measure => simp [intOf]; omega
  ·obtain rfl : i = ks.length := by omega
   have hzl : (ks.zip ds).take ks.length = ks.zip ds := List.take_of_length_le (by rw [List.length_zip]; exact Nat.min_le_left _ _)
   rw [hzl] at HB
   have Hy := Lib.hid (bytes94_any Y p _ (by rw [List.length_append, beN_len]; omega) wr HB.out)
   have HF := Lib.hid hEr.out
   clear hEr hzl
   go_wp2_with fail
   refine Hy.out.mono ?_
   rintro e w6 ⟨r, rfl, ⟨hO, hyY⟩, rfl⟩
   have HO := Lib.hid hO
   have HyY := Lib.hid hyY
   clear hO hyY
   go_wp2_with fail
   go_ret2
   exact ⟨r, rfl, ⟨HO.out, fun b o n c e hx => by have h1 := HyY.out b o n c e; have h2 := HYl.out b h1; have h3 := HXX.out b hx; have := HE1.out.size; omega⟩, HE1.out.trans HF.out⟩
end Go.Proofs.YtammjbmfiakbnaaGreatDoor
namespace Go.Proofs.YtammjbmfiakbnaaGreatDoor
open Go.RowKit
/-- A row of bytes of the call's own that reads as l; it lies in Y. -/
def RowY (Y : Nat → Prop) (w : World) (v : Value) (l : List UInt8) : Prop := (∀ k, v.ownBlock = some k → Y k) ∧ w.ownsRow 0 5 1 v l.length (l.map byteV)
theorem RowY.nil (Y : Nat → Prop) (w : World) : RowY Y w (.slice none 0 0) [] := ⟨(fun k hk => by cases hk), World.ownsRow_nil _ _ _ _⟩
theorem own_blk_lt {w : World} {b0 n k : Nat} {v : Value} {xs : List Value} (h : w.ownsRow b0 5 1 v n xs) (hk : v.ownBlock = some k) : k < w.heap.size := by
 rcases h.2 with ⟨rfl, _⟩ | ⟨g, cap, cur, rfl, _, hg, _⟩
 ·cases hk
 ·injection hk with hk
  subst hk
  exact (Array.getElem?_eq_some_iff.1 hg).1
theorem RowY.ext {Y : Nat → Prop} {w w1 : World} {v : Value} {l : List UInt8} (h : RowY Y w v l) (he : Ext w w1) : RowY Y w1 v l := ⟨h.1, ownsRow_ext h.2 he⟩
theorem RowY.weak {Y Y' : Nat → Prop} {w : World} {v : Value} {l : List UInt8} (h : RowY Y w v l) (hy : ∀ k, k < w.heap.size → Y k → Y' k) : RowY Y' w v l := ⟨fun k hk => hy k (own_blk_lt h.2 hk) (h.1 k hk), h.2⟩
theorem RowY.out {Y : Nat → Prop} {w : World} {v : Value} {l : List UInt8} (h : RowY Y w v l) (h0 : 0 < l.length) : Out l v w ∧ ∀ b o n c, v = .slice (some ⟨b, o, none⟩) n c → Y b := by
 obtain ⟨hv, ho⟩ := h
 obtain ⟨g, cap, rfl, hg⟩ := own_form1 ho h0
 refine ⟨?_, fun b o n c e => ?_⟩
 ·rcases ho.2 with ⟨h, _⟩ | ⟨g', cap', cur, hv, _, hg, hc, _, _, ht⟩
  ·cases h
  ·injection hv with hv1 hv2 hv3; injection hv1 with hv1; injection hv1 with hv1; subst hv1; subst hv3
   exact Out.of_blk hg (by decide) (by decide) rfl hc (by simpa using ht)
 ·injection e with e
  injection e with e
  injection e with e
  subst e
  exact hv _ rfl
theorem row_step {Y : Nat → Prop} {w W w1 : World} {gg cap1 n : Nat} {c l : List UInt8} {v : Value} (hv : ∀ k, v.ownBlock = some k → Y k) (hY : ∀ k, w.heap.size ≤ k → Y k) (hE : Ext w W)
  (hown1 : w1.ownsRow 0 5 1 (.slice (some ⟨gg, 0, none⟩) n cap1) n ((c ++ l).map byteV)) (hn : n = (c ++ l).length) (hgrow : W.grownBy w1 v.ownBlock) (hat : v.ownBlock = some gg ∨ W.heap.size ≤ gg) :
  RowY Y w1 (.slice (some ⟨gg, 0, none⟩) n cap1) (c ++ l) ∧ KeepY Y w w1 := by
 subst hn
 have hs := hE.size
 refine ⟨⟨fun k hk => ?_, hown1⟩, hgrow.os.trans hE.os, hgrow.tape.trans hE.tape, hgrow.output.trans hE.output, Nat.le_trans hs hgrow.size, fun k hk hn => (hgrow.block k (by omega) (fun e => hn (hv k e.symm))).trans (hE.block k hk)⟩
 injection hk with hk
 subst hk
 rcases hat with h | h
 ·exact hv _ h
 ·exact hY _ (show w.heap.size ≤ gg by omega)
set_option maxRecDepth 100000 in
set_option maxHeartbeats 1000000 in
theorem appendInt_any (x : Int) (Y : Nat → Prop) (v : Value) (l : List UInt8) (hl : l.length ≤ 1099511627776) (w : World) (h : RowY Y w v l) (hY : ∀ k, w.heap.size ≤ k → Y k) :
  Calls Tryz.prog 101 #[v, .int .i32 x] w fun e w' => ∃ v', e = .returned v' ∧ RowY Y w' v' (l ++ beN x 4) ∧ KeepY Y w w' := by
 obtain ⟨i0, hi0, hz0, hz1, hz2⟩ := info_parts info5
 obtain ⟨hv, ho⟩ := h
 obtain ⟨vA, vc, rfl, -⟩ := ownB_slice ho
 have hE : Ext w (w.alloc (.cells #[.int .u8 (x / 16777216 % 256), .int .u8 (x / 65536 % 256), .int .u8 (x / 256 % 256), .int .u8 (x % 256)] 5)) := (Ext.refl w).alloc _
 have Ho1 := Lib.hid (ownsRow_ext ho hE)
 have Hv := Lib.hid hv
 have HY := Lib.hid hY
 have HE := Lib.hid hE
 clear ho hv hY hE
 go_enter Tryz.func101, Tryz.ntmps101
 go_wp2_with (at_builtin; refine wpList_append_lies _ rfl _ _ _ rfl 0 5 i0 _ 1 1 Tryz.underlying27 hi0 hz0 hz1 hz2 rfl (by omega) (.slice vA l.length vc) l.length (l.map byteV) rfl Ho1.out ⟨w.heap.size, 0, none⟩ 4 4 [.int .u8 (x / 16777216 % 256), .int .u8 (x / 65536 % 256), .int .u8 (x / 256 % 256), .int .u8 (x % 256)] rfl rfl (World.news_of_block (cs := #[.int .u8 (x / 16777216 % 256), .int .u8 (x / 65536 % 256), .int .u8 (x / 256 % 256), .int .u8 (x % 256)]) (t := 5) (fr := (0, 0)) (heap_alloc_new w _)) (by simp [Value.oneCell']) (by omega) (by unfold maxLen; omega) (by omega) (Nat.zero_le _) (w.heap.size + 1) (by simp) ?_; intro gg cap1 w1 hown1 hgrow hat hltg)
 go_ret
 exact ⟨_, rfl, row_step (l := beN x 4) Hv.out HY.out HE.out (by rw [be4]; simpa [byteV_bt] using hown1) (by simp [beN_len]) hgrow (by rcases hat with h | h; exact .inl h; exact .inr (by simp; omega))⟩
theorem wrap32_len (n : Nat) (h : n ≤ 2147483647) : wrap32 (n : Int) = n := by unfold wrap32; omega
/-- An append of bytes to a row that is not nil. -/
theorem row_append {Y : Nat → Prop} {w : World} {v : Value} {l m : List UInt8} (h : RowY Y w v l) (h0 : 0 < l.length) (hY : ∀ k, w.heap.size ≤ k → Y k) {A : Option Addr} {n k : Nat} (hv : Bytes w (.slice A n k) m) (hl : l.length ≤ 1099511627776) (hm : m.length ≤ 1099511627776) :
  ∃ v' w1, (∀ ty, (Builtin.append_ #[27, 27] ty #[v, .slice A n k]).run Tryz.prog w = .ok v' w1) ∧ RowY Y w1 v' (l ++ m) ∧ KeepY Y w w1 ∧ ∃ g n' c', v' = .slice (some ⟨g, 0, none⟩) n' c' := by
 obtain ⟨hvY, ho⟩ := h
 obtain ⟨g, cap, rfl, hg⟩ := own_form1 ho h0
 obtain ⟨gg, cap1, w1, hrun, hown, hgrow, hat⟩ := append_wr 27 Tryz.underlying27 ho (Nat.zero_le _) hv hl hm
 have e : l.length + m.length = (l ++ m).length := by simp
 obtain ⟨h1, h2⟩ := row_step (l := m) hvY hY (Ext.refl w) hown e hgrow (by rcases hat with h | h; exact .inl h; exact .inr (by omega))
 exact ⟨_, w1, hrun, h1, h2, gg, _, cap1, rfl⟩
set_option maxRecDepth 100000 in
set_option maxHeartbeats 1000000 in
theorem appendBytes_any (Y : Nat → Prop) (v : Value) (l m : List UInt8) (hl : l.length ≤ 1099511620000) (hm : m.length ≤ 2147483647) (b o k : Nat) (w : World) (h : RowY Y w v l) (hY : ∀ k, w.heap.size ≤ k → Y k)
  (hd : ∀ W, KeepY Y w W → Bytes W (.slice (some ⟨b, o, none⟩) m.length k) m) :
  Calls Tryz.prog 102 #[v, .slice (some ⟨b, o, none⟩) m.length k] w fun e w' => ∃ v', e = .returned v' ∧ RowY Y w' v' (l ++ (beN (m.length : Int) 4 ++ m)) ∧ KeepY Y w w' := by
 have hq : ∀ W : World, (binOp .eql 27 (.slice (some ⟨b, o, none⟩) m.length k) (.slice none 0 0)).run Tryz.prog W = .ok (.bool false) W := fun W => Lib.run_eql_slice_nil W 27 5 (some ⟨b, o, none⟩) m.length k 0 0 Tryz.underlying27
 have hw32 := wrap32_len m.length hm
 have Hc := Lib.hid (appendInt_any (m.length : Int) Y v l (by omega) w h hY)
 have HY := Lib.hid hY
 have Hd := Lib.hid hd
 clear h hY hd
 go_enter Tryz.func102, Tryz.ntmps102
 go_wp2_with fail
 refine Hc.out.mono ?_
 rintro e w1 ⟨v1, rfl, hr1, hk1⟩
 have hs1 := hk1.size
 obtain ⟨v2, w2, hrun, hr2, hk2, g2, n2, c2, rfl⟩ := row_append hr1 (by rw [List.length_append, beN_len]; omega) (fun k hk => HY.out k (by omega)) (Hd.out w1 hk1) (by rw [List.length_append, beN_len]; omega) (by omega)
 have HR2 := Lib.hid hr2
 have HK2 := Lib.hid (hk1.trans hk2)
 clear hr1 hk1 hr2 hk2
 go_wp2_with (first | (at_builtin; refine wpList_append_eq rfl _ _ 27 27 rfl _ _ rfl rfl (fun ty => hrun ty) ?_))
 go_ret
 exact ⟨_, rfl, by rw [← List.append_assoc]; exact HR2.out, HK2.out⟩
end Go.Proofs.YtammjbmfiakbnaaGreatDoor
