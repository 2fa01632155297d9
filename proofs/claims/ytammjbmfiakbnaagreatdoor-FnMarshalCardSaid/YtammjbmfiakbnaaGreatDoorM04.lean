/- A part of the proof that the card of laws.FnMarshal holds. No conditions. -/
import Derived.Test.YtammjbmfiakbnaaGreatDoorM03
import Derived.Test.YtammjbmfiakbnaaGreatDoorM02
import Derived.Laws.MakeOwn
set_option linter.unusedSimpArgs false
set_option linter.unusedVariables false
namespace Go.Proofs.YtammjbmfiakbnaaGreatDoor
open Go.RowKit
theorem ownB_slice {w : World} {b0 n : Nat} {e : TypeId} {v : Value} {xs : List Value} (h : w.ownsRow b0 e 1 v n xs) : ∃ A c, v = .slice A n c ∧ n ≤ c := by
 rcases h.2 with ⟨rfl, rfl⟩ | ⟨g, cap, cur, rfl, _, _, hc, _⟩
 ·exact ⟨none, 0, rfl, Nat.le_refl _⟩
 ·exact ⟨_, cap, rfl, hc⟩
theorem bt_small {x : Nat} (h : x < 256) : byteV (UInt8.ofNat x) = .int .u8 (x : Int) := by
 unfold byteV
 rw [UInt8.toNat_ofNat']
 congr 2
 omega
theorem map_set' (l : List UInt8) (k x : Nat) (h : x < 256) : (l.map byteV).set k (.int .u8 (x : Int)) = (l.set k (UInt8.ofNat x)).map byteV := by
 rw [List.map_set, bt_small h]
theorem byteV_at {l : List UInt8} {k : Nat} (h : k < l.length) : (l.map byteV)[k]? = some (.int .u8 (l[k].toNat : Int)) := by
 rw [List.getElem?_map, List.getElem?_eq_getElem h]
 rfl
theorem decN_ge (l : List UInt8) : ∀ a : Nat, a ≤ l.foldl (fun a c => a * 10 + (c.toNat - 48)) a := by
 induction l with
 |nil => intro a; exact Nat.le_refl _
 |cons c r ih =>
  intro a
  refine Nat.le_trans ?_ (ih _)
  show a ≤ a * 10 + (c.toNat - 48)
  omega
theorem decN_pos {l : List UInt8} (h : Dig l) (h0 : l ≠ [48]) : 0 < decN l := by
 obtain ⟨h1, _, h3, h4⟩ := h
 cases l with
 |nil => exact absurd rfl h1
 |cons c r =>
  have hc := h3 c (by simp)
  have hn : c.toNat ≠ 48 := by
   intro e
   rcases h4 with h4 | h4
   ·exact h4 (by
     have : c = 48 := UInt8.toNat_inj.1 e
     rw [this]
     rfl)
   ·exact h0 h4
  have h5 : ∀ m : Nat, 0 < m → 0 < List.foldl (fun a c => a * 10 + (c.toNat - 48)) m r := fun m hm => Nat.lt_of_lt_of_le hm (decN_ge r _)
  exact h5 (0 * 10 + (c.toNat - 48)) (by omega)
theorem chs_at (u : ByteArray) {i : Nat} (hi : i < u.size) : (chs u)[i]'(by simpa using hi) = u[i] := rfl
theorem own_cap {w : World} {b0 n c l : Nat} {e : TypeId} {A : Option Addr} {xs : List Value} (h : w.ownsRow b0 e 1 (.slice A n c) l xs) : c ≤ maxLen := by
 rcases h.2 with ⟨hv, _⟩ | ⟨g, cap, cur, hv, _, _, _, hm, _⟩
 ·injection hv with _ _ h; subst h; exact Nat.zero_le _
 ·injection hv with _ _ h; subst h; exact hm
theorem own_form1 {w : World} {b0 n : Nat} {e : TypeId} {v : Value} {xs : List Value} (h : w.ownsRow b0 e 1 v n xs) (hn : 0 < n) : ∃ g cap, v = .slice (some ⟨g, 0, none⟩) n cap ∧ b0 ≤ g := by
 rcases h.2 with ⟨_, rfl⟩ | ⟨g, cap, cur, hv, hb, _⟩
 ·omega
 ·exact ⟨g, cap, hv, hb⟩
theorem own_ge {w : World} {b0 n k : Nat} {e : TypeId} {v : Value} {xs : List Value} (h : w.ownsRow b0 e 1 v n xs) (hk : v.ownBlock = some k) : b0 ≤ k := by
 rcases h.2 with ⟨rfl, _⟩ | ⟨g, cap, cur, rfl, hb, _⟩
 ·cases hk
 ·injection hk with hk; subst hk; exact hb
theorem byteV_some {l : List UInt8} {k : Nat} {x : UInt8} (h : l[k]? = some x) : (l.map byteV)[k]? = some (.int .u8 (x.toNat : Int)) := by
 rw [List.getElem?_map, h]
 rfl
theorem own_len {w : World} {b0 n m : Nat} {e : TypeId} {v : Value} {xs : List Value} (h : w.ownsRow b0 e 1 v n xs) (hn : n = m) : w.ownsRow b0 e 1 v m xs := hn ▸ h
theorem shr8 (n : Nat) (c : Nat) (W : World) : (Op.shift .shr .i64 ((n : Int) * 10 + c) .u64 8).run Tryz.prog W = .ok (.int .i64 (((n * 10 + c) / 256 : Nat) : Int)) W := by
 simp [Op.shift, IntKind.bits, Int.fdiv_eq_ediv_of_nonneg]
theorem numOf_plus {l : List UInt8} (h : Dig l) : numOf l = decN l := by
 cases l with
 |nil => exact absurd rfl h.1
 |cons c r =>
  have hc := h.2.2.1 c (by simp)
  have h45 : c ≠ 45 := by
   rintro rfl
   exact absurd hc (by decide)
  simp [numOf, h45]
/-- A slice's length. -/
def lenS : Value → Nat
 |.slice _ n _ => n
 |_ => 0
theorem shr7lo (b : Nat) (h : b < 128) (W : World) : (Op.shift .shr .u8 (b : Int) .u64 7).run Tryz.prog W = .ok (.int .u8 0) W := by
 have : (b : Int) / 128 = 0 := by omega
 simp [Op.shift, IntKind.bits, Int.fdiv_eq_ediv_of_nonneg, this]
theorem shr7hi (b : Nat) (h : 128 ≤ b) (h' : b < 256) (W : World) : (Op.shift .shr .u8 (b : Int) .u64 7).run Tryz.prog W = .ok (.int .u8 1) W := by
 have : (b : Int) / 128 = 1 := by omega
 simp [Op.shift, IntKind.bits, Int.fdiv_eq_ediv_of_nonneg, this]
theorem rev2 {l : List UInt8} {m : Nat} (h : l.length = m + 2) : ∃ a b r, l.reverse = a :: b :: r ∧ l[m + 1]? = some a ∧ l[m]? = some b ∧ (l.take (m + 1)).reverse = b :: r := by
 have e : l.reverse.reverse = l := List.reverse_reverse l
 cases hr : l.reverse with
 |nil => rw [hr] at e; rw [← e] at h; simp at h
 |cons a q =>
  cases q with
  |nil => rw [hr] at e; rw [← e] at h; simp at h
  |cons b r =>
   rw [hr] at e
   have e2 : l = r.reverse ++ [b, a] := by rw [← e]; simp
   have hl : r.length = m := by rw [e2] at h; simp at h; omega
   refine ⟨a, b, r, rfl, ?_, ?_, ?_⟩
   ·rw [e2, List.getElem?_append_right (by simp; omega)]
    simp [hl]
   ·rw [e2, List.getElem?_append_right (by simp; omega)]
    simp [hl]
   ·rw [e2, show r.reverse ++ [b, a] = (r.reverse ++ [b]) ++ [a] by simp, List.take_left' (by simp [hl])]
    simp
theorem min1 {l : List UInt8} (h : l.length = 1) : MinB l := fun a b r e => by rw [e] at h; simp at h
/-- What is given back. -/
theorem whole_fin {w wr : World} {n : Int} {l : List UInt8} (he : Ext w wr) (htc : tcVal l.reverse = n) (hl : 1 ≤ l.length) (hmin : MinB l.reverse) : tc n = l.reverse :=
 IsTc.tc_eq ⟨by intro e; have := congrArg List.length e; simp at this; rw [this] at hl; simp at hl, htc, hmin⟩
theorem rev1 {l : List UInt8} (h : l.length = 1) : l.reverse = l := by
 match l, h with
 |[a], _ => rfl
theorem not_u8 (x : Nat) (h : x < 256) : bits BinOp.xor IntKind.u8 (if IntKind.u8.signed = true then -1 else IntKind.u8.max) (x : Int) = ((255 - x : Nat) : Int) := by
 have : ∀ y : Fin 256, bits BinOp.xor IntKind.u8 (if IntKind.u8.signed = true then -1 else IntKind.u8.max) (y.val : Int) = ((255 - y.val : Nat) : Int) := by decide +kernel
 exact this ⟨x, h⟩
/-- The reference turns a row round: what its loop keeps. -/
structure RevL (l : List UInt8) (i : Nat) (l' : List UInt8) : Prop where
 len : l'.length = l.length
 at_ : ∀ p, p < l.length → l'[p]? = if p < i ∨ l.length ≤ p + i then l[l.length - 1 - p]? else l[p]?
theorem RevL.start (l : List UInt8) : RevL l 0 l := ⟨rfl, fun p hp => by rw [if_neg (by omega)]⟩
theorem RevL.last {l l' : List UInt8} {i : Nat} (h : RevL l i l') (hi : l.length ≤ 2 * i + 1) : l' = l.reverse := by
 refine List.ext_getElem? fun p => ?_
 by_cases hp : p < l.length
 ·rw [h.at_ p hp, List.getElem?_reverse hp]
  split
  ·rfl
  ·congr 1
   omega
 ·rw [List.getElem?_eq_none (by rw [h.len]; omega), List.getElem?_eq_none (by simp; omega)]
theorem RevL.step {l l' : List UInt8} {i j : Nat} {x y : UInt8} (h : RevL l i l') (hij : i + j + 1 = l.length) (hlt : i < j) (hx : l'[i]? = some x) (hy : l'[j]? = some y) : RevL l (i + 1) ((l'.set i y).set j x) := by
 have hlen := h.len
 rw [h.at_ i (by omega), if_neg (by omega)] at hx
 rw [h.at_ j (by omega), if_neg (by omega)] at hy
 refine ⟨by simp [hlen], fun p hp => ?_⟩
 by_cases hpj : p = j
 ·subst hpj
  rw [List.getElem?_set_self (by simp; omega), if_pos (by omega), show l.length - 1 - p = i by omega, hx]
 ·rw [List.getElem?_set_ne (by omega)]
  by_cases hpi : p = i
  ·subst hpi
   rw [List.getElem?_set_self (by omega), if_pos (by omega), show l.length - 1 - p = j by omega, hy]
  ·rw [List.getElem?_set_ne (by omega), h.at_ p hp]
   by_cases hc : p < i ∨ l.length ≤ p + i
   ·rw [if_pos hc, if_pos (by omega)]
   ·rw [if_neg hc, if_neg (by omega)]
/-- The world and the bytes that lie in the row. -/
def OwnB (w0 wr : World) (o : Value) (l : List UInt8) : Prop := wr.ownsRow w0.heap.size 5 1 o l.length (l.map byteV) ∧ Ext w0 wr
theorem OwnB.set {w0 wr : World} {g cap k x : Nat} {l : List UInt8} (h : OwnB w0 wr (.slice (some ⟨g, 0, none⟩) l.length cap) l) (hk : k < l.length) (hx : x < 256) :
  OwnB w0 (wr.setCell ⟨g, k, none⟩ (.int .u8 (x : Int))) (.slice (some ⟨g, 0, none⟩) l.length cap) (l.set k (UInt8.ofNat x)) := by
 refine ⟨?_, h.2.setCell (own_bounds h.1).1 _⟩
 have := own_set h.1 hk (.int .u8 (x : Int))
 rw [map_set' l k x hx] at this
 simpa using this
theorem OwnB.set2 {w0 wr : World} {g cap n i j : Nat} {l : List UInt8} (h : wr.ownsRow w0.heap.size 5 1 (.slice (some ⟨g, 0, none⟩) n cap) l.length (l.map byteV) ∧ Ext w0 wr) (hi : i < l.length) (hj : j < l.length) :
  OwnB w0 ((wr.setCell ⟨g, i, none⟩ (.int .u8 (l[j].toNat : Int))).setCell ⟨g, j, none⟩ (.int .u8 (l[i].toNat : Int))) (.slice (some ⟨g, 0, none⟩) n cap) ((l.set i l[j]).set j l[i]) := by
 have hn : n = l.length := by
  rcases h.1.2 with ⟨e, _⟩ | ⟨g', cap', cur, hv, _⟩
  ·cases e
  ·injection hv with _ e _
 subst hn
 have h1 := OwnB.set (x := l[j].toNat) h hi (byte_lt _)
 have h2 := OwnB.set (x := l[i].toNat) (l := l.set i (UInt8.ofNat l[j].toNat)) (cap := cap) (k := j) (by simpa using h1) (by simpa using hj) (byte_lt _)
 simpa using h2
set_option maxRecDepth 100000 in
set_option maxHeartbeats 4000000 in
theorem whole_plus (s : ByteArray) (hs : s.size ≤ 140737488351232) (hd : Dig (chs s)) (w : World) : Calls Tryz.prog 32 #[.string s] w fun e w' => ∃ r, e = .returned r ∧ Bytes w' r (tc (numOf (chs s))) ∧ Ext w w' := by
 obtain ⟨i0, hi0, hz0, hz1, hz2⟩ := info_parts info5
 obtain ⟨u, hu⟩ : ∃ u, u = s := ⟨s, rfl⟩
 subst hu
 have HU := Lib.hid hd
 have hpos : 0 < u.size := by
  rcases Nat.eq_zero_or_pos u.size with h | h
  ·exact absurd (List.eq_nil_of_length_eq_zero (by simpa using h)) hd.1
  ·exact h
 have h0 : ((u[0].toNat : Int) == 45) = false := by
  have := hd.2.2.1 u[0] (by rw [← chs_at u hpos]; exact List.getElem_mem _)
  simp
  omega
 clear hd
 go_enter Tryz.func32, Tryz.ntmps32
 go_wp2_with fail
 go_loopw [4, 23] (fun o v wr => ∃ (i : Nat) (l : List UInt8), i ≤ u.size ∧ v = .int .i64 i ∧ OwnB w wr o l ∧ leVal l = decN ((chs u).take i) ∧ l.length ≤ i) (fun _ v _ => u.size - (intOf v).toNat)
 case atStart => exact ⟨0, [], Nat.zero_le _, rfl, ⟨World.ownsRow_nil _ _ _ _, Ext.refl _⟩, rfl, Nat.le_refl _⟩
 case round =>
  obtain ⟨i, l, hi, rfl, hO, hval, hll⟩ := hrel
  obtain ⟨A, cap, rfl, hcap⟩ := ownB_slice hO.1
  have hcm : cap ≤ maxLen := own_cap hO.1
  unfold maxLen at hcm
  have Hval := Lib.hid hval
  clear hval
  by_cases hlt : i < u.size
  ·have hdig : 48 ≤ u[i].toNat ∧ u[i].toNat ≤ 57 := HU.out.2.2.1 _ (by rw [← chs_at u hlt]; exact List.getElem_mem _)
   obtain ⟨hd1, hd2⟩ := hdig
   have hsub : IntKind.u8.wrap ((u[i].toNat : Int) - 48) = ((u[i].toNat - 48 : Nat) : Int) := by
    have : (u[i].toNat : Int) - 48 = ((u[i].toNat - 48 : Nat) : Int) := by omega
    rw [this, IntKind.wrap_u8]
    omega
   have HO := Lib.hid hO
   clear hO
   go_wp2_with fail
   obtain ⟨wq, hwq⟩ : ∃ x, x = wr := ⟨wr, rfl⟩
   subst hwq
   try simp only [hsub]
   have hchar : (chs u).take (i + 1) = (chs u).take i ++ [u[i]] := by
    rw [take_succ' (by simpa using hlt), chs_at u hlt]
   have Hchar := Lib.hid hchar
   clear hchar
   go_loopw [6, 33] (fun cv v wr => ∃ (k c : Nat) (l' : List UInt8), k ≤ l.length ∧ v = .int .i64 k ∧ cv = .int .i64 c ∧ MulL l (u[i].toNat - 48) k c l' ∧ OwnB w wr (.slice A l.length cap) l') (fun _ v _ => l.length - (intOf v).toNat)
   case atStart => exact ⟨0, u[i].toNat - 48, l, Nat.zero_le _, rfl, rfl, MulL.start l _ (by omega), HO.out⟩
   case round =>
    obtain ⟨k, c, l', hk, rfl, rfl, hM, hO'⟩ := hrel
    have hc9 := hM.small
    have hlen := hM.len
    by_cases hkl : k < l.length
    ·obtain ⟨g, cap', hA, hg⟩ := own_form1 hO'.1 (by omega)
     injection hA with hA hA2 hA3
     subst hA
     subst hA3
     clear hA2
     have hx : l'[k]? = some l[k] := by rw [hM.rest k (Nat.le_refl _), List.getElem?_eq_getElem hkl]
     obtain ⟨g0, g1⟩ := own_get (hlen ▸ hO'.1) (byteV_some hx)
     have hx256 := byte_lt l[k]
     have hO2 := OwnB.set (x := (l[k].toNat * 10 + c) % 256) (hlen ▸ hO') (k := k) (by omega) (by omega)
     rw [show l'.length = l.length from hlen] at hO2
     have HM := Lib.hid (hM.step hkl)
     have HO2 := Lib.hid hO2
     have hb1 : IntKind.u8.wrap ((l[k].toNat : Int) * 10 + c) = (((l[k].toNat * 10 + c) % 256 : Nat) : Int) := by rw [IntKind.wrap_u8]; omega
     have hb2 : ∀ W, (Op.shift .shr .i64 ((l[k].toNat : Int) * 10 + c) .u64 8).run Tryz.prog W = .ok (.int .i64 (((l[k].toNat * 10 + c) / 256 : Nat) : Int)) W := fun W => shr8 _ _ W
     have hki : (k : Int) < l.length := by omega
     clear hO' hM hO2 hx
     have hkb : k < 281474976710656 := by omega
     go_wp2_with fail
     go_roundw
     case rel => exact ⟨k + 1, (l[k].toNat * 10 + c) / 256, _, by omega, by go_num, rfl, HM.out, by first | exact HO2.out | (simpa [hb1] using HO2.out)⟩
     case measure => simp [intOf]; omega
    ·obtain rfl : k = l.length := by omega
     have Hlast := Lib.hid hM.last
     have HO' := Lib.hid hO'
     clear hM hO'
     by_cases hc0 : 0 < c
     ·simp only [hc0, if_true] at Hlast
      have hbc : IntKind.u8.wrap (c : Int) = (c : Int) := by rw [IntKind.wrap_u8]; omega
      go_wp2_with (at_builtin; refine wpList_append_lies _ rfl _ _ _ rfl w.heap.size 5 i0 _ 1 1 Tryz.underlying27 hi0 hz0 hz1 hz2 rfl (by omega) (.slice A l.length cap) l.length (l'.map byteV) rfl (own_len (HO'.out.1.alloc _) hlen) ⟨wr.heap.size, 0, none⟩ 1 1 [.int .u8 (c : Int)] rfl rfl (World.news_of_block (heap_alloc_new wr _)) (by simp [Value.oneCell']) (by omega) (by unfold maxLen; omega) (by omega) (by have := HO'.out.2.size; simp; omega) (wr.heap.size + 1) (by simp) ?_; intro gg cap1 w3 hown3 hgrow hat hltg)
      have hO3 : OwnB w w3 (.slice (some ⟨gg, 0, none⟩) (l.length + 1) cap1) (l' ++ [UInt8.ofNat c]) := by
       refine ⟨?_, ((HO'.out.2).alloc _).grown hgrow (fun k hk => own_ge HO'.out.1 hk)⟩
       rw [List.map_append, List.length_append, hlen]
       simp only [List.map_cons, List.map_nil, bt_small (show c < 256 by omega)]
       exact hown3
      have HO3 := Lib.hid hO3
      clear hO3 hown3 hgrow hat
      go_wp2_with fail
      go_roundw
      case rel =>
       refine ⟨i + 1, _, by omega, by go_num, HO3.out, ?_, by simp [hlen]; omega⟩
       rw [Hlast.out, Hchar.out, decN_snoc, Hval.out]
       omega
      case measure => simp [intOf]; omega
     ·obtain rfl : c = 0 := by omega
      simp only [Nat.lt_irrefl, if_false, List.append_nil] at Hlast
      go_wp2_with fail
      go_roundw
      case rel =>
       refine ⟨i + 1, l', by omega, by go_num, HO'.out, ?_, by omega⟩
       rw [Hlast.out, Hchar.out, decN_snoc, Hval.out]
       omega
      case measure => simp [intOf]; omega
  ·obtain rfl : i = u.size := by omega
   have hval : leVal l = decN (chs u) := by rw [Hval.out, List.take_of_length_le (by simp)]
   have hl41 : l.length ≤ 40 := by have := HU.out.2.1; simp at this; omega
   clear Hval
   have HO := Lib.hid hO
   clear hO
   go_wp2_with (at_builtin; refine wpList_append_lies _ rfl _ _ _ rfl w.heap.size 5 i0 _ 1 1 Tryz.underlying27 hi0 hz0 hz1 hz2 rfl (by omega) (.slice A l.length cap) l.length (l.map byteV) rfl (HO.out.1.alloc _) ⟨wr.heap.size, 0, none⟩ 1 1 [.int .u8 0] rfl rfl (World.news_of_block (heap_alloc_new wr _)) (by simp [Value.oneCell']) (by omega) (by unfold maxLen; omega) (by omega) (by have := HO.out.2.size; simp; omega) (wr.heap.size + 1) (by simp) ?_; intro gg cap1 w3 hown3 hgrow hat hltg)
   have hO3 : OwnB w w3 (.slice (some ⟨gg, 0, none⟩) (l.length + 1) cap1) (l ++ [0]) := by
    refine ⟨?_, (HO.out.2.alloc _).grown hgrow (fun k hk => own_ge HO.out.1 hk)⟩
    have e1 : (l ++ [0]).length = l.length + 1 := by first | (simp; done) | (simp; omega)
    rw [List.map_append, e1]
    exact hown3
   have hsgn : ∀ a r, (l ++ [0]).reverse = a :: r → (128 ≤ a.toNat ↔ (0 : Nat) = 255) := fun a r e => by
    rw [List.reverse_append] at e
    simp only [List.reverse_cons, List.reverse_nil, List.nil_append, List.singleton_append, List.cons.injEq] at e
    rw [← e.1]
    decide
   have htc : tcVal (l ++ [0]).reverse = numOf (chs u) := by
    rw [List.reverse_append]
    simp only [List.reverse_cons, List.reverse_nil, List.nil_append, List.singleton_append]
    rw [tc_fill0, hval]; exact (numOf_plus HU.out).symm
   have hlen3 : (l ++ [0]).length = l.length + 1 := by first | (simp; done) | (simp; omega)
   have hl3 : (l ++ [0]).length ≤ 41 := by simp; omega
   have HO3 := Lib.hid hO3
   have Htc := Lib.hid htc
   have Hsgn := Lib.hid hsgn
   have Hlen3 := Lib.hid hlen3
   generalize l ++ [0] = l0 at HO3 Htc Hsgn hl3 Hlen3
   clear hO3 htc hsgn hown3 hgrow hat hlen3
   go_loopw [4] (fun o wr => ∃ (l : List UInt8), o = .slice (some ⟨gg, 0, none⟩) l.length cap1 ∧ OwnB w wr o l ∧ 1 ≤ l.length ∧ l.length ≤ 41 ∧ tcVal l.reverse = numOf (chs u) ∧ ∀ a r, l.reverse = a :: r → (128 ≤ a.toNat ↔ (0 : Nat) = 255)) (fun o _ => lenS o)
   case atStart => exact ⟨l0, by rw [Hlen3.out], Hlen3.out ▸ HO3.out, by rw [Hlen3.out]; omega, hl3, Htc.out, Hsgn.out⟩
   case round =>
    obtain ⟨l, rfl, hO, hl1, hl41, htc, hsgn⟩ := hrel
    have hcm3 : l.length ≤ cap1 ∧ cap1 ≤ maxLen := (own_bounds hO.1).2.2
    unfold maxLen at hcm3
    obtain ⟨hcm3, hcm4⟩ := hcm3
    have Hfin := Lib.hid (fun (hmin : MinB l.reverse) => whole_fin hO.2 htc hl1 hmin)
    by_cases h2 : l.length = 1
    ·have hm : MinB l.reverse := min1 (by simpa using h2)
     rw [h2] at hO
     have HF := Lib.hid (Hfin.out hm)
     clear Hfin hm hsgn htc
     have HO := Lib.hid hO
     rw [h2] at hcm3 ⊢
     clear hO
     go_wp2_with fail
     go_loopw [13, 14] (fun iv jv wr => iv = .int .i64 0 ∧ jv = .int .i64 0 ∧ OwnB w wr (.slice (some ⟨gg, 0, none⟩) 1 cap1) l) (fun _ jv _ => (intOf jv).toNat)
     case atStart => exact ⟨rfl, rfl, HO.out⟩
     case round =>
      obtain ⟨rfl, rfl, hO'⟩ := hrel
      have HF2 := Lib.hid (show Bytes wr (.slice (some ⟨gg, 0, none⟩) 1 cap1) (tc (numOf (chs u))) ∧ Ext w wr from ⟨by rw [HF.out, rev1 h2]; exact own_bytes hO'.1, hO'.2⟩)
      clear hO'
      go_wp2_with fail
      go_ret
      exact ⟨_, rfl, HF2.out⟩
    ·obtain ⟨m, hm⟩ : ∃ m, l.length = m + 2 := ⟨l.length - 2, by omega⟩
     obtain ⟨a, b, r, hrev, ha, hb, htk⟩ := rev2 hm
     have hsg := hsgn a (b :: r) hrev
     have ca := own_get hO.1 (byteV_some ha)
     have cb := own_get hO.1 (byteV_some hb)
     obtain ⟨ca, -⟩ := ca
     obtain ⟨cb, -⟩ := cb
     have ha256 := byte_lt a
     have hb256 := byte_lt b
     rw [hrev] at htc
     have HO := Lib.hid (hm ▸ hO)
     rw [hm] at hcm3 hl41 ⊢
     have e2 : l.length = m + 2 := hm
     have Hrev := Lib.hid hrev
     have Hsg := Lib.hid hsg
     have Hsgn := Lib.hid hsgn
     have Hm := Lib.hid hm
     have Htc := Lib.hid htc
     have Htk := Lib.hid htk
     have hm40 : m ≤ 39 := by omega
     clear hO hm hsgn htc hrev ha hb htk hsg e2
     by_cases ha0 : (a.toNat : Int) = 0
     ·have ua : ((a.toNat : Int) == 0) = true := by simp [ha0]
      by_cases hb0 : b.toNat < 128
      ·have hsh := shr7lo b.toNat hb0
       have hO4 := own_cut (own_len HO.out.1 Hm.out) (m := m + 1) (by omega)
       rw [← List.map_take] at hO4
       have HO4 := Lib.hid hO4
       have hlt4 : (l.take (m + 1)).length = m + 1 := by simp [Hm.out]
       have Hlt4 := Lib.hid hlt4
       clear hO4 hlt4 Hfin
       go_wp2_with fail
       go_roundw
       case rel =>
        refine ⟨l.take (m + 1), by rw [Hlt4.out]; first | rfl | trace_state, ⟨own_len HO4.out Hlt4.out.symm, HO.out.2⟩, by rw [Hlt4.out]; omega, by rw [Hlt4.out]; omega, ?_, fun a' r' e => ?_⟩
        ·rw [Htk.out, ← Htc.out]
         exact (tc_drop a b r (Or.inl ⟨(by omega : a.toNat = 0), hb0⟩)).symm
        ·rw [Htk.out] at e
         injection e with e1 e2
         subst e1
         exact ⟨fun h => by omega, fun h => by simp at h⟩
       case measure => simp [lenS]
      ·have hsh := shr7hi b.toNat (by omega) hb256
       have HF := Lib.hid (Hfin.out (by rw [Hrev.out]; exact fun a' b' r' e => by injection e with e1 e2; injection e2 with e2 e3; subst e1; subst e2; omega))
       clear Hfin Htc Hsgn
       go_wp2_with fail
       go_loopw [13, 14] (fun iv jv wr => ∃ (i j : Nat) (l' : List UInt8), iv = .int .i64 i ∧ jv = .int .i64 j ∧ i + j + 1 = (m + 2) ∧ i ≤ j + 1 ∧ RevL l i l' ∧ OwnB w wr (.slice (some ⟨gg, 0, none⟩) l.length cap1) l') (fun _ jv _ => (intOf jv).toNat)
       case atStart => exact ⟨0, m + 1, l, rfl, by first | rfl | (congr 1; omega), by omega, by omega, RevL.start l, by rw [Hm.out]; exact HO.out⟩
       case round =>
        obtain ⟨i, j, l', rfl, rfl, hij, hij2, hR, hO'⟩ := hrel
        rw [Hm.out] at hO'
        have hLF := Hm.out
        by_cases hlt : (i : Int) < j
        ·obtain ⟨q, rfl⟩ : ∃ q, j = q + 1 := ⟨j - 1, by omega⟩
         have hlen := hR.len
         have hi : i < l'.length := by omega
         have hj : q + 1 < l'.length := by omega
         have gi := own_get (own_len hO'.1 (by omega)) (byteV_at hi)
         have gj := own_get (own_len hO'.1 (by omega)) (byteV_at hj)
         obtain ⟨gi, fi⟩ := gi
         obtain ⟨gj, fj⟩ := gj
         have hO2 := OwnB.set2 hO' (i := i) (j := q + 1) hi hj
         have HR := Lib.hid (hR.step (i := i) (j := q + 1) (by omega) (by omega) (List.getElem?_eq_getElem hi) (List.getElem?_eq_getElem hj))
         have HO2 := Lib.hid hO2
         generalize l'[i] = x at gi HR HO2
         generalize l'[q + 1] = y at gj HR HO2
         have hx256 := byte_lt x
         have hy256 := byte_lt y
         have hneq : i ≠ q + 1 := by omega
         have hi1 : i < (m + 2) := by omega
         have hj1 : q + 1 < (m + 2) := by omega
         have hq : q < 1000000 := by omega
         clear hO' hR hO2 hLF hlen hi hj
         go_wp2_with fail
         go_region
         all_goals
          go_wp2_with fail
          go_roundw
          case rel => exact ⟨i + 1, q, _, by go_num, by go_num, by omega, by omega, HR.out, by rw [Hm.out]; exact ⟨HO2.out.1, HO2.out.2.drew⟩⟩
          case measure => simp [intOf]
        ·obtain rfl : l' = l.reverse := hR.last (by omega)
         have HF2 := Lib.hid (show Bytes wr (.slice (some ⟨gg, 0, none⟩) (m + 2) cap1) (tc (numOf (chs u))) ∧ Ext w wr from ⟨by rw [HF.out]; exact own_bytes hO'.1, hO'.2⟩)
         clear hO' hR hLF
         go_wp2_with fail
         go_ret
         exact ⟨_, rfl, HF2.out⟩
     ·have ua : ((a.toNat : Int) == 0) = false := by simp; omega
      have HF := Lib.hid (Hfin.out (by rw [Hrev.out]; exact fun a' b' r' e => by injection e with e1 e2; injection e2 with e2 e3; subst e1; subst e2; have := Hsg.out; omega))
      clear Hfin Htc Hsgn
      go_wp2_with fail
      go_loopw [13, 14] (fun iv jv wr => ∃ (i j : Nat) (l' : List UInt8), iv = .int .i64 i ∧ jv = .int .i64 j ∧ i + j + 1 = (m + 2) ∧ i ≤ j + 1 ∧ RevL l i l' ∧ OwnB w wr (.slice (some ⟨gg, 0, none⟩) l.length cap1) l') (fun _ jv _ => (intOf jv).toNat)
      case atStart => exact ⟨0, m + 1, l, rfl, by first | rfl | (congr 1; omega), by omega, by omega, RevL.start l, by rw [Hm.out]; exact HO.out⟩
      case round =>
       obtain ⟨i, j, l', rfl, rfl, hij, hij2, hR, hO'⟩ := hrel
       rw [Hm.out] at hO'
       have hLF := Hm.out
       by_cases hlt : (i : Int) < j
       ·obtain ⟨q, rfl⟩ : ∃ q, j = q + 1 := ⟨j - 1, by omega⟩
        have hlen := hR.len
        have hi : i < l'.length := by omega
        have hj : q + 1 < l'.length := by omega
        have gi := own_get (own_len hO'.1 (by omega)) (byteV_at hi)
        have gj := own_get (own_len hO'.1 (by omega)) (byteV_at hj)
        obtain ⟨gi, fi⟩ := gi
        obtain ⟨gj, fj⟩ := gj
        have hO2 := OwnB.set2 hO' (i := i) (j := q + 1) hi hj
        have HR := Lib.hid (hR.step (i := i) (j := q + 1) (by omega) (by omega) (List.getElem?_eq_getElem hi) (List.getElem?_eq_getElem hj))
        have HO2 := Lib.hid hO2
        generalize l'[i] = x at gi HR HO2
        generalize l'[q + 1] = y at gj HR HO2
        have hx256 := byte_lt x
        have hy256 := byte_lt y
        have hneq : i ≠ q + 1 := by omega
        have hi1 : i < (m + 2) := by omega
        have hj1 : q + 1 < (m + 2) := by omega
        have hq : q < 1000000 := by omega
        clear hO' hR hO2 hLF hlen hi hj
        go_wp2_with fail
        go_region
        all_goals
         go_wp2_with fail
         go_roundw
         case rel => exact ⟨i + 1, q, _, by go_num, by go_num, by omega, by omega, HR.out, by rw [Hm.out]; exact ⟨HO2.out.1, HO2.out.2.drew⟩⟩
         case measure => simp [intOf]
       ·obtain rfl : l' = l.reverse := hR.last (by omega)
        have HF2 := Lib.hid (show Bytes wr (.slice (some ⟨gg, 0, none⟩) (m + 2) cap1) (tc (numOf (chs u))) ∧ Ext w wr from ⟨by rw [HF.out]; exact own_bytes hO'.1, hO'.2⟩)
        clear hO' hR hLF
        go_wp2_with fail
        go_ret
        exact ⟨_, rfl, HF2.out⟩
set_option maxRecDepth 100000 in
set_option maxHeartbeats 4000000 in
theorem whole_minus (s : ByteArray) (hs : s.size ≤ 140737488351232) (r : List UInt8) (hr : chs s = 45 :: r) (hd : Dig r ∧ r ≠ [48]) (w : World) : Calls Tryz.prog 32 #[.string s] w fun e w' => ∃ r, e = .returned r ∧ Bytes w' r (tc (numOf (chs s))) ∧ Ext w w' := by
 obtain ⟨i0, hi0, hz0, hz1, hz2⟩ := info_parts info5
 obtain ⟨hd, h48⟩ := hd
 have h0s : 0 < s.size := by
  rcases Nat.eq_zero_or_pos s.size with h | h
  ·exfalso
   have : (chs s).length = s.size := rfl
   rw [hr, h] at this
   simp at this
  ·exact h
 have hch := chs_extract s h0s
 rw [hr] at hch
 injection hch with h45 hch
 have h1' : ((s[0].toNat : Int) == 45) = true := by rw [← h45]; rfl
 have hnum : numOf (chs s) = -(decN r : Int) := by rw [hr]; rfl
 have hpos' := decN_pos hd h48
 have hu : (s.extract 1 s.size).size ≤ 140737488351232 := by simp; omega
 subst hch
 have HU := Lib.hid hd
 have Hnum := Lib.hid hnum
 clear hd hr hnum h45 h48
 go_enter Tryz.func32, Tryz.ntmps32
 go_wp2_with fail
 rw [show s.size - 1 = (s.extract 1 s.size).size by simp]
 generalize s.extract 1 s.size = u at *
 go_loopw [4, 23] (fun o v wr => ∃ (i : Nat) (l : List UInt8), i ≤ u.size ∧ v = .int .i64 i ∧ OwnB w wr o l ∧ leVal l = decN ((chs u).take i) ∧ l.length ≤ i) (fun _ v _ => u.size - (intOf v).toNat)
 case atStart => exact ⟨0, [], Nat.zero_le _, rfl, ⟨World.ownsRow_nil _ _ _ _, Ext.refl _⟩, rfl, Nat.le_refl _⟩
 case round =>
  obtain ⟨i, l, hi, rfl, hO, hval, hll⟩ := hrel
  obtain ⟨A, cap, rfl, hcap⟩ := ownB_slice hO.1
  have hcm : cap ≤ maxLen := own_cap hO.1
  unfold maxLen at hcm
  have Hval := Lib.hid hval
  clear hval
  by_cases hlt : i < u.size
  ·have hdig : 48 ≤ u[i].toNat ∧ u[i].toNat ≤ 57 := HU.out.2.2.1 _ (by rw [← chs_at u hlt]; exact List.getElem_mem _)
   obtain ⟨hd1, hd2⟩ := hdig
   have hsub : IntKind.u8.wrap ((u[i].toNat : Int) - 48) = ((u[i].toNat - 48 : Nat) : Int) := by
    have : (u[i].toNat : Int) - 48 = ((u[i].toNat - 48 : Nat) : Int) := by omega
    rw [this, IntKind.wrap_u8]
    omega
   have HO := Lib.hid hO
   clear hO
   go_wp2_with fail
   obtain ⟨wq, hwq⟩ : ∃ x, x = wr := ⟨wr, rfl⟩
   subst hwq
   try simp only [hsub]
   have hchar : (chs u).take (i + 1) = (chs u).take i ++ [u[i]] := by
    rw [take_succ' (by simpa using hlt), chs_at u hlt]
   have Hchar := Lib.hid hchar
   clear hchar
   go_loopw [6, 33] (fun cv v wr => ∃ (k c : Nat) (l' : List UInt8), k ≤ l.length ∧ v = .int .i64 k ∧ cv = .int .i64 c ∧ MulL l (u[i].toNat - 48) k c l' ∧ OwnB w wr (.slice A l.length cap) l') (fun _ v _ => l.length - (intOf v).toNat)
   case atStart => exact ⟨0, u[i].toNat - 48, l, Nat.zero_le _, rfl, rfl, MulL.start l _ (by omega), HO.out⟩
   case round =>
    obtain ⟨k, c, l', hk, rfl, rfl, hM, hO'⟩ := hrel
    have hc9 := hM.small
    have hlen := hM.len
    by_cases hkl : k < l.length
    ·obtain ⟨g, cap', hA, hg⟩ := own_form1 hO'.1 (by omega)
     injection hA with hA hA2 hA3
     subst hA
     subst hA3
     clear hA2
     have hx : l'[k]? = some l[k] := by rw [hM.rest k (Nat.le_refl _), List.getElem?_eq_getElem hkl]
     obtain ⟨g0, g1⟩ := own_get (hlen ▸ hO'.1) (byteV_some hx)
     have hx256 := byte_lt l[k]
     have hO2 := OwnB.set (x := (l[k].toNat * 10 + c) % 256) (hlen ▸ hO') (k := k) (by omega) (by omega)
     rw [show l'.length = l.length from hlen] at hO2
     have HM := Lib.hid (hM.step hkl)
     have HO2 := Lib.hid hO2
     have hb1 : IntKind.u8.wrap ((l[k].toNat : Int) * 10 + c) = (((l[k].toNat * 10 + c) % 256 : Nat) : Int) := by rw [IntKind.wrap_u8]; omega
     have hb2 : ∀ W, (Op.shift .shr .i64 ((l[k].toNat : Int) * 10 + c) .u64 8).run Tryz.prog W = .ok (.int .i64 (((l[k].toNat * 10 + c) / 256 : Nat) : Int)) W := fun W => shr8 _ _ W
     have hki : (k : Int) < l.length := by omega
     clear hO' hM hO2 hx
     have hkb : k < 281474976710656 := by omega
     go_wp2_with fail
     go_roundw
     case rel => exact ⟨k + 1, (l[k].toNat * 10 + c) / 256, _, by omega, by go_num, rfl, HM.out, by first | exact HO2.out | (simpa [hb1] using HO2.out)⟩
     case measure => simp [intOf]; omega
    ·obtain rfl : k = l.length := by omega
     have Hlast := Lib.hid hM.last
     have HO' := Lib.hid hO'
     clear hM hO'
     by_cases hc0 : 0 < c
     ·simp only [hc0, if_true] at Hlast
      have hbc : IntKind.u8.wrap (c : Int) = (c : Int) := by rw [IntKind.wrap_u8]; omega
      go_wp2_with (at_builtin; refine wpList_append_lies _ rfl _ _ _ rfl w.heap.size 5 i0 _ 1 1 Tryz.underlying27 hi0 hz0 hz1 hz2 rfl (by omega) (.slice A l.length cap) l.length (l'.map byteV) rfl (own_len (HO'.out.1.alloc _) hlen) ⟨wr.heap.size, 0, none⟩ 1 1 [.int .u8 (c : Int)] rfl rfl (World.news_of_block (heap_alloc_new wr _)) (by simp [Value.oneCell']) (by omega) (by unfold maxLen; omega) (by omega) (by have := HO'.out.2.size; simp; omega) (wr.heap.size + 1) (by simp) ?_; intro gg cap1 w3 hown3 hgrow hat hltg)
      have hO3 : OwnB w w3 (.slice (some ⟨gg, 0, none⟩) (l.length + 1) cap1) (l' ++ [UInt8.ofNat c]) := by
       refine ⟨?_, ((HO'.out.2).alloc _).grown hgrow (fun k hk => own_ge HO'.out.1 hk)⟩
       rw [List.map_append, List.length_append, hlen]
       simp only [List.map_cons, List.map_nil, bt_small (show c < 256 by omega)]
       exact hown3
      have HO3 := Lib.hid hO3
      clear hO3 hown3 hgrow hat
      go_wp2_with fail
      go_roundw
      case rel =>
       refine ⟨i + 1, _, by omega, by go_num, HO3.out, ?_, by simp [hlen]; omega⟩
       rw [Hlast.out, Hchar.out, decN_snoc, Hval.out]
       omega
      case measure => simp [intOf]; omega
     ·obtain rfl : c = 0 := by omega
      simp only [Nat.lt_irrefl, if_false, List.append_nil] at Hlast
      go_wp2_with fail
      go_roundw
      case rel =>
       refine ⟨i + 1, l', by omega, by go_num, HO'.out, ?_, by omega⟩
       rw [Hlast.out, Hchar.out, decN_snoc, Hval.out]
       omega
      case measure => simp [intOf]; omega
  ·obtain rfl : i = u.size := by omega
   have hval : leVal l = decN (chs u) := by rw [Hval.out, List.take_of_length_le (by simp)]
   have hl41 : l.length ≤ 40 := by have := HU.out.2.1; simp at this; omega
   clear Hval
   have hl0 : 0 < l.length := by
    rcases Nat.eq_zero_or_pos l.length with h | h
    ·rw [List.eq_nil_of_length_eq_zero h] at hval
     simp [leVal] at hval
     omega
    ·exact h
   obtain ⟨g, cap', hA, hg⟩ := own_form1 hO.1 hl0
   injection hA with hA hA2 hA3
   subst hA
   subst hA3
   clear hA2
   have HO := Lib.hid hO
   clear hO
   go_wp2_with fail
   obtain ⟨wq, hwq⟩ : ∃ x, x = wr := ⟨wr, rfl⟩
   subst hwq
   go_loopw [9, 63] (fun cv v wr => ∃ (k c : Nat) (l' : List UInt8), k ≤ l.length ∧ v = .int .i64 k ∧ cv = .int .i64 c ∧ NegL l k c l' ∧ OwnB w wr (.slice (some ⟨g, 0, none⟩) l.length cap) l') (fun _ v _ => l.length - (intOf v).toNat)
   case atStart => exact ⟨0, 1, l, Nat.zero_le _, rfl, rfl, NegL.start l, HO.out⟩
   case round =>
    obtain ⟨k, c, l', hk, rfl, rfl, hM, hO'⟩ := hrel
    have hc9 := hM.small
    have hlen := hM.len
    by_cases hkl : k < l.length
    ·have hx : l'[k]? = some l[k] := by rw [hM.rest k (Nat.le_refl _), List.getElem?_eq_getElem hkl]
     obtain ⟨g0, g1⟩ := own_get (hlen ▸ hO'.1) (byteV_some hx)
     have hx256 := byte_lt l[k]
     have hO2 := OwnB.set (x := (255 - l[k].toNat + c) % 256) (hlen ▸ hO') (k := k) (by omega) (by omega)
     rw [show l'.length = l.length from hlen] at hO2
     have HM := Lib.hid (hM.step hkl)
     have HO2 := Lib.hid hO2
     have hki : (k : Int) < l.length := by omega
     clear hO' hM hO2 hx
     have hkb : k < 281474976710656 := by omega
     go_wp2_with fail
     go_roundw
     case rel =>
      have e : wrap64 (wrap64 (bits BinOp.xor IntKind.u8 (if IntKind.u8.signed = true then -1 else IntKind.u8.max) (l[k].toNat : Int)) + c) = ((255 - l[k].toNat + c : Nat) : Int) := by
       rw [not_u8 _ hx256, IntWalk.wrap64_in ((255 - l[k].toNat : Nat) : Int) (by omega), IntWalk.wrap64_in _ (by omega)]
       omega
      rw [e]
      exact ⟨k + 1, (255 - l[k].toNat + c) / 256, _, by omega, by go_num, rfl, HM.out, HO2.out⟩
     case measure => simp [intOf]; omega
    ·obtain rfl : k = l.length := by omega
     have hneg := hM.last (by omega)
     obtain ⟨LL, hLL⟩ : ∃ x, x = l.length := ⟨_, rfl⟩
     rw [← hLL] at hO' hM hneg hlen hl0 hl41
     have hl0' : (0 : Int) < LL := by omega
     have HOn := Lib.hid hO'
     have HLL := Lib.hid hLL
     rw [← hLL]
     clear hO' hM hLL
     go_wp2_with (at_builtin; refine wpList_append_lies _ rfl _ _ _ rfl w.heap.size 5 i0 _ 1 1 Tryz.underlying27 hi0 hz0 hz1 hz2 rfl (by omega) (.slice (some ⟨g, 0, none⟩) LL cap) LL (l'.map byteV) rfl ((own_len HOn.out.1 hlen).alloc _) ⟨wr.heap.size, 0, none⟩ 1 1 [.int .u8 255] rfl rfl (World.news_of_block (heap_alloc_new wr _)) (by simp [Value.oneCell']) (by omega) (by unfold maxLen; omega) (by omega) (by have := HOn.out.2.size; simp; omega) (wr.heap.size + 1) (by simp) ?_; intro gg cap1 w3 hown3 hgrow hat hltg)
     have hO3 : OwnB w w3 (.slice (some ⟨gg, 0, none⟩) (LL + 1) cap1) (l' ++ [255]) := by
      refine ⟨?_, (HOn.out.2.alloc _).grown hgrow (fun k hk => own_ge (own_len HOn.out.1 hlen) hk)⟩
      have e1 : (l' ++ [255]).length = LL + 1 := by first | (simp; done) | (simp; omega)
      rw [List.map_append, e1]
      exact hown3
     have hsgn : ∀ a r, (l' ++ [255]).reverse = a :: r → (128 ≤ a.toNat ↔ (255 : Nat) = 255) := fun a r e => by
      rw [List.reverse_append] at e
      simp only [List.reverse_cons, List.reverse_nil, List.nil_append, List.singleton_append, List.cons.injEq] at e
      rw [← e.1]
      decide
     have htc : tcVal (l' ++ [255]).reverse = numOf (chs s) := by
      rw [List.reverse_append]
      simp only [List.reverse_cons, List.reverse_nil, List.nil_append, List.singleton_append]
      rw [tc_fill255, hlen, Hnum.out, hval.symm]; have : ((256 ^ LL : Nat) : Int) = (256 : Int) ^ LL := Int.natCast_pow _ _; omega
     have hlen3 : (l' ++ [255]).length = LL + 1 := by first | (simp; done) | (simp; omega)
     have hl3 : (l' ++ [255]).length ≤ 41 := by simp; omega
     have HO3 := Lib.hid hO3
     have Htc := Lib.hid htc
     have Hsgn := Lib.hid hsgn
     have Hlen3 := Lib.hid hlen3
     generalize l' ++ [255] = l0 at HO3 Htc Hsgn hl3 Hlen3
     clear hO3 htc hsgn hown3 hgrow hat hlen3
     go_loopw [4] (fun o wr => ∃ (l : List UInt8), o = .slice (some ⟨gg, 0, none⟩) l.length cap1 ∧ OwnB w wr o l ∧ 1 ≤ l.length ∧ l.length ≤ 41 ∧ tcVal l.reverse = numOf (chs s) ∧ ∀ a r, l.reverse = a :: r → (128 ≤ a.toNat ↔ (255 : Nat) = 255)) (fun o _ => lenS o)
     case atStart => exact ⟨l0, by rw [Hlen3.out], Hlen3.out ▸ HO3.out, by rw [Hlen3.out]; omega, hl3, Htc.out, Hsgn.out⟩
     case round =>
      obtain ⟨l, rfl, hO, hl1, hl41, htc, hsgn⟩ := hrel
      have hcm3 : l.length ≤ cap1 ∧ cap1 ≤ maxLen := (own_bounds hO.1).2.2
      unfold maxLen at hcm3
      obtain ⟨hcm3, hcm4⟩ := hcm3
      have Hfin := Lib.hid (fun (hmin : MinB l.reverse) => whole_fin hO.2 htc hl1 hmin)
      by_cases h2 : l.length = 1
      ·have hm : MinB l.reverse := min1 (by simpa using h2)
       rw [h2] at hO
       have HF := Lib.hid (Hfin.out hm)
       clear Hfin hm hsgn htc
       have HO := Lib.hid hO
       rw [h2] at hcm3 ⊢
       clear hO
       go_wp2_with fail
       go_loopw [13, 14] (fun iv jv wr => iv = .int .i64 0 ∧ jv = .int .i64 0 ∧ OwnB w wr (.slice (some ⟨gg, 0, none⟩) 1 cap1) l) (fun _ jv _ => (intOf jv).toNat)
       case atStart => exact ⟨rfl, rfl, HO.out⟩
       case round =>
        obtain ⟨rfl, rfl, hO'⟩ := hrel
        have HF2 := Lib.hid (show Bytes wr (.slice (some ⟨gg, 0, none⟩) 1 cap1) (tc (numOf (chs s))) ∧ Ext w wr from ⟨by rw [HF.out, rev1 h2]; exact own_bytes hO'.1, hO'.2⟩)
        clear hO'
        go_wp2_with fail
        go_ret
        exact ⟨_, rfl, HF2.out⟩
      ·obtain ⟨m, hm⟩ : ∃ m, l.length = m + 2 := ⟨l.length - 2, by omega⟩
       obtain ⟨a, b, r, hrev, ha, hb, htk⟩ := rev2 hm
       have hsg := hsgn a (b :: r) hrev
       have ca := own_get hO.1 (byteV_some ha)
       have cb := own_get hO.1 (byteV_some hb)
       obtain ⟨ca, -⟩ := ca
       obtain ⟨cb, -⟩ := cb
       have ha256 := byte_lt a
       have hb256 := byte_lt b
       rw [hrev] at htc
       have HO := Lib.hid (hm ▸ hO)
       rw [hm] at hcm3 hl41 ⊢
       have e2 : l.length = m + 2 := hm
       have Hrev := Lib.hid hrev
       have Hsg := Lib.hid hsg
       have Hsgn := Lib.hid hsgn
       have Hm := Lib.hid hm
       have Htc := Lib.hid htc
       have Htk := Lib.hid htk
       have hm40 : m ≤ 39 := by omega
       clear hO hm hsgn htc hrev ha hb htk hsg e2
       by_cases ha0 : (a.toNat : Int) = 255
       ·have ua : ((a.toNat : Int) == 255) = true := by simp [ha0]
        by_cases hb0 : b.toNat < 128
        ·have hsh := shr7lo b.toNat hb0
         have HF := Lib.hid (Hfin.out (by rw [Hrev.out]; exact fun a' b' r' e => by injection e with e1 e2; injection e2 with e2 e3; subst e1; subst e2; omega))
         clear Hfin Htc Hsgn
         go_wp2_with fail
         go_loopw [13, 14] (fun iv jv wr => ∃ (i j : Nat) (l' : List UInt8), iv = .int .i64 i ∧ jv = .int .i64 j ∧ i + j + 1 = (m + 2) ∧ i ≤ j + 1 ∧ RevL l i l' ∧ OwnB w wr (.slice (some ⟨gg, 0, none⟩) l.length cap1) l') (fun _ jv _ => (intOf jv).toNat)
         case atStart => exact ⟨0, m + 1, l, rfl, by first | rfl | (congr 1; omega), by omega, by omega, RevL.start l, by rw [Hm.out]; exact HO.out⟩
         case round =>
          obtain ⟨i, j, l', rfl, rfl, hij, hij2, hR, hO'⟩ := hrel
          rw [Hm.out] at hO'
          have hLF := Hm.out
          by_cases hlt : (i : Int) < j
          ·obtain ⟨q, rfl⟩ : ∃ q, j = q + 1 := ⟨j - 1, by omega⟩
           have hlen := hR.len
           have hi : i < l'.length := by omega
           have hj : q + 1 < l'.length := by omega
           have gi := own_get (own_len hO'.1 (by omega)) (byteV_at hi)
           have gj := own_get (own_len hO'.1 (by omega)) (byteV_at hj)
           obtain ⟨gi, fi⟩ := gi
           obtain ⟨gj, fj⟩ := gj
           have hO2 := OwnB.set2 hO' (i := i) (j := q + 1) hi hj
           have HR := Lib.hid (hR.step (i := i) (j := q + 1) (by omega) (by omega) (List.getElem?_eq_getElem hi) (List.getElem?_eq_getElem hj))
           have HO2 := Lib.hid hO2
           generalize l'[i] = x at gi HR HO2
           generalize l'[q + 1] = y at gj HR HO2
           have hx256 := byte_lt x
           have hy256 := byte_lt y
           have hneq : i ≠ q + 1 := by omega
           have hi1 : i < (m + 2) := by omega
           have hj1 : q + 1 < (m + 2) := by omega
           have hq : q < 1000000 := by omega
           clear hO' hR hO2 hLF hlen hi hj
           go_wp2_with fail
           go_region
           all_goals
            go_wp2_with fail
            go_roundw
            case rel => exact ⟨i + 1, q, _, by go_num, by go_num, by omega, by omega, HR.out, by rw [Hm.out]; exact ⟨HO2.out.1, HO2.out.2.drew⟩⟩
            case measure => simp [intOf]
          ·obtain rfl : l' = l.reverse := hR.last (by omega)
           have HF2 := Lib.hid (show Bytes wr (.slice (some ⟨gg, 0, none⟩) (m + 2) cap1) (tc (numOf (chs s))) ∧ Ext w wr from ⟨by rw [HF.out]; exact own_bytes hO'.1, hO'.2⟩)
           clear hO' hR hLF
           go_wp2_with fail
           go_ret
           exact ⟨_, rfl, HF2.out⟩
        ·have hsh := shr7hi b.toNat (by omega) hb256
         have hO4 := own_cut (own_len HO.out.1 Hm.out) (m := m + 1) (by omega)
         rw [← List.map_take] at hO4
         have HO4 := Lib.hid hO4
         have hlt4 : (l.take (m + 1)).length = m + 1 := by simp [Hm.out]
         have Hlt4 := Lib.hid hlt4
         clear hO4 hlt4 Hfin
         go_wp2_with fail
         go_roundw
         case rel =>
          refine ⟨l.take (m + 1), by rw [Hlt4.out]; first | rfl | trace_state, ⟨own_len HO4.out Hlt4.out.symm, HO.out.2⟩, by rw [Hlt4.out]; omega, by rw [Hlt4.out]; omega, ?_, fun a' r' e => ?_⟩
          ·rw [Htk.out, ← Htc.out]
           exact (tc_drop a b r (Or.inr ⟨(by omega : a.toNat = 255), (by omega : 128 ≤ b.toNat)⟩)).symm
          ·rw [Htk.out] at e
           injection e with e1 e2
           subst e1
           exact ⟨fun h => by first | trivial | rfl, fun h => by omega⟩
         case measure => simp [lenS]
       ·have ua : ((a.toNat : Int) == 255) = false := by simp; omega
        have HF := Lib.hid (Hfin.out (by rw [Hrev.out]; exact fun a' b' r' e => by injection e with e1 e2; injection e2 with e2 e3; subst e1; subst e2; have := Hsg.out; omega))
        clear Hfin Htc Hsgn
        go_wp2_with fail
        go_loopw [13, 14] (fun iv jv wr => ∃ (i j : Nat) (l' : List UInt8), iv = .int .i64 i ∧ jv = .int .i64 j ∧ i + j + 1 = (m + 2) ∧ i ≤ j + 1 ∧ RevL l i l' ∧ OwnB w wr (.slice (some ⟨gg, 0, none⟩) l.length cap1) l') (fun _ jv _ => (intOf jv).toNat)
        case atStart => exact ⟨0, m + 1, l, rfl, by first | rfl | (congr 1; omega), by omega, by omega, RevL.start l, by rw [Hm.out]; exact HO.out⟩
        case round =>
         obtain ⟨i, j, l', rfl, rfl, hij, hij2, hR, hO'⟩ := hrel
         rw [Hm.out] at hO'
         have hLF := Hm.out
         by_cases hlt : (i : Int) < j
         ·obtain ⟨q, rfl⟩ : ∃ q, j = q + 1 := ⟨j - 1, by omega⟩
          have hlen := hR.len
          have hi : i < l'.length := by omega
          have hj : q + 1 < l'.length := by omega
          have gi := own_get (own_len hO'.1 (by omega)) (byteV_at hi)
          have gj := own_get (own_len hO'.1 (by omega)) (byteV_at hj)
          obtain ⟨gi, fi⟩ := gi
          obtain ⟨gj, fj⟩ := gj
          have hO2 := OwnB.set2 hO' (i := i) (j := q + 1) hi hj
          have HR := Lib.hid (hR.step (i := i) (j := q + 1) (by omega) (by omega) (List.getElem?_eq_getElem hi) (List.getElem?_eq_getElem hj))
          have HO2 := Lib.hid hO2
          generalize l'[i] = x at gi HR HO2
          generalize l'[q + 1] = y at gj HR HO2
          have hx256 := byte_lt x
          have hy256 := byte_lt y
          have hneq : i ≠ q + 1 := by omega
          have hi1 : i < (m + 2) := by omega
          have hj1 : q + 1 < (m + 2) := by omega
          have hq : q < 1000000 := by omega
          clear hO' hR hO2 hLF hlen hi hj
          go_wp2_with fail
          go_region
          all_goals
           go_wp2_with fail
           go_roundw
           case rel => exact ⟨i + 1, q, _, by go_num, by go_num, by omega, by omega, HR.out, by rw [Hm.out]; exact ⟨HO2.out.1, HO2.out.2.drew⟩⟩
           case measure => simp [intOf]
         ·obtain rfl : l' = l.reverse := hR.last (by omega)
          have HF2 := Lib.hid (show Bytes wr (.slice (some ⟨gg, 0, none⟩) (m + 2) cap1) (tc (numOf (chs s))) ∧ Ext w wr from ⟨by rw [HF.out]; exact own_bytes hO'.1, hO'.2⟩)
          clear hO' hR hLF
          go_wp2_with fail
          go_ret
          exact ⟨_, rfl, HF2.out⟩
theorem whole_any (s : ByteArray) (hs : s.size ≤ 140737488351232) (hd : DigS (chs s)) (w : World) : Calls Tryz.prog 32 #[.string s] w fun e w' => ∃ r, e = .returned r ∧ Bytes w' r (tc (numOf (chs s))) ∧ Ext w w' := by
 rcases hd with hd | ⟨r, hr, hd⟩
 ·exact whole_plus s hs hd w
 ·exact whole_minus s hs r hr hd w
end Go.Proofs.YtammjbmfiakbnaaGreatDoor
namespace Go.Proofs.YtammjbmfiakbnaaGreatDoor
open Go.RowKit
/-- A word as a cell. -/
abbrev wd (a : Nat) : Value := .int .u64 (a : Int)
/-- Only block g is written. -/
structure FrameG (w w' : World) (g : Nat) : Prop where
 os : w'.os = w.os
 tape : w'.tape = w.tape
 output : w'.output = w.output
 size : w'.heap.size = w.heap.size
 rest : ∀ k, k ≠ g → w'.heap[k]? = w.heap[k]?
theorem FrameG.refl (w : World) (g : Nat) : FrameG w w g := ⟨rfl, rfl, rfl, rfl, fun _ _ => rfl⟩
theorem FrameG.trans {a b c : World} {g : Nat} (h : FrameG a b g) (k : FrameG b c g) : FrameG a c g :=
 ⟨k.os.trans h.os, k.tape.trans h.tape, k.output.trans h.output, k.size.trans h.size, fun i hi => (k.rest i hi).trans (h.rest i hi)⟩
theorem FrameG.set {a b : World} {g o : Nat} (h : FrameG a b g) (u : Value) : FrameG a (b.setCell ⟨g, o, none⟩ u) g :=
 ⟨h.os, h.tape, h.output, by rw [← h.size]; simp [World.setCell], fun k hk => (Below.heap_setCell b ⟨g, o, none⟩ u k hk).trans (h.rest k hk)⟩
theorem FrameG.ext {w0 w w' : World} {g : Nat} (h : FrameG w w' g) (he : Ext w0 w) (hg : w0.heap.size ≤ g) : Ext w0 w' :=
 ⟨h.os.trans he.os, h.tape.trans he.tape, h.output.trans he.output, by rw [h.size]; exact he.size, fun k hk => (h.rest k (by omega)).trans (he.block k hk)⟩
theorem FrameG.cell {w w' : World} {g b o : Nat} (h : FrameG w w' g) (hb : b ≠ g) : w'.cell? ⟨b, o, none⟩ = w.cell? ⟨b, o, none⟩ := World.cell?_of_block (a := ⟨b, o, none⟩) (h.rest b hb)
theorem FrameG.blk {w w' : World} {g b : Nat} {t : TypeId} {cs : Array Value} (h : FrameG w w' g) (hb : b ≠ g) (k : Blk w b t cs) : Blk w' b t cs := (h.rest b hb).trans k
theorem take_set_succN {l : List Nat} {k : Nat} (hk : k < l.length) (b : Nat) : (l.set k b).take (k + 1) = l.take k ++ [b] := by
 rw [List.take_add_one, List.getElem?_set_self hk]
 simp [List.take_set_of_le]
theorem take_succN {l : List Nat} {k : Nat} (hk : k < l.length) : l.take (k + 1) = l.take k ++ [l[k]] := by
 rw [List.take_add_one, List.getElem?_eq_getElem hk]
 rfl
theorem wd_at {l : List Nat} {k a : Nat} (h : l[k]? = some a) : (l.map wd)[k]? = some (wd a) := by rw [List.getElem?_map, h]; rfl
/-- What the loop keeps. -/
structure MulV (xs L : List Nat) (y r i c : Nat) (L' : List Nat) : Prop where
 len : L'.length = L.length
 small : c < 18446744073709551616
 rest : ∀ j, i ≤ j → L'[j]? = L[j]?
 words : ∀ a ∈ L'.take i, a < 18446744073709551616
 sum : wVal (L'.take i) + 18446744073709551616 ^ i * c = y * wVal (xs.take i) + r
theorem MulV.step {xs L L' : List Nat} {y r i c : Nat} (h : MulV xs L y r i c L') (hi : i < xs.length) (hl : xs.length ≤ L.length) (hx : xs[i] < 18446744073709551616) (hy : y < 18446744073709551616) :
  MulV xs L y r (i + 1) ((xs[i] * y + c) / 18446744073709551616) (L'.set i ((xs[i] * y + c) % 18446744073709551616)) := by
 have hil : i < L'.length := by rw [h.len]; omega
 have hc := h.small
 have hp : xs[i] * y ≤ 18446744073709551615 * 18446744073709551615 := Nat.mul_le_mul (by omega) (by omega)
 refine ⟨by simp [h.len], by omega, fun j hj => by rw [List.getElem?_set_ne (by omega)]; exact h.rest j (by omega), fun a ha => ?_, ?_⟩
 ·rw [take_set_succN hil] at ha
  rcases List.mem_append.1 ha with ha | ha
  ·exact h.words a ha
  ·simp at ha; omega
 ·rw [take_set_succN hil, take_succN hi, wVal_append, wVal_append]
  have h1 := h.sum
  simp only [List.length_take, Nat.min_eq_left (Nat.le_of_lt hil), Nat.min_eq_left (Nat.le_of_lt hi), wVal, Nat.mul_zero, Nat.add_zero]
  rw [show 18446744073709551616 ^ (i + 1) = 18446744073709551616 ^ i * 18446744073709551616 from Nat.pow_succ _ _]
  generalize 18446744073709551616 ^ i = B at h1
  generalize xs[i] = x at hp
  have e4 : y * (B * x) = B * (x * y) := by rw [← Nat.mul_assoc, Nat.mul_comm y B, Nat.mul_assoc, Nat.mul_comm y x]
  rw [Nat.mul_add y, e4]
  generalize x * y = p at hp
  generalize hq : (p + c) / 18446744073709551616 = q
  generalize hr : (p + c) % 18446744073709551616 = t
  have hqr : p + c = 18446744073709551616 * q + t := by omega
  have e2 : B * 18446744073709551616 * q = B * (18446744073709551616 * q) := Nat.mul_assoc _ _ _
  have e3 : B * t + B * (18446744073709551616 * q) = B * p + B * c := by rw [← Nat.mul_add, ← Nat.mul_add, hqr, Nat.add_comm]
  rw [e2]
  omega
set_option maxRecDepth 100000 in
set_option maxHeartbeats 2000000 in
theorem mulv_any (y r : Nat) (hy : y < 18446744073709551616) (hr : r < 18446744073709551616) (xs : List Nat) (hx : ∀ a ∈ xs, a < 18446744073709551616) (hn40 : xs.length ≤ 1000000) (b0 gz cz cz' gx cx N : Nat) (L : List Nat) (w : World)
  (hown : w.ownsRow b0 291 1 (.slice (some ⟨gz, 0, none⟩) N cz) N (L.map wd)) (hN : xs.length ≤ N) (hxs : ∀ j a, xs[j]? = some a → w.cell? ⟨gx, j, none⟩ = some (wd a)) :
  Calls Tryz.prog 227 #[.slice (some ⟨gz, 0, none⟩) xs.length cz', .slice (some ⟨gx, 0, none⟩) xs.length cx, .int .u64 y, .int .u64 r] w
   fun e w' => ∃ (c : Nat) (L' : List Nat), e = .returned (.int .u64 c) ∧ MulV xs L y r xs.length c L' ∧ w'.ownsRow b0 291 1 (.slice (some ⟨gz, 0, none⟩) N cz) N (L'.map wd) ∧ FrameG w w' gz := by
 have hLN : L.length = N := by simpa using hown.1
 have HO := Lib.hid hown
 have HX := Lib.hid hxs
 have Hx := Lib.hid hx
 clear hown hxs hx
 go_enter Tryz.func227, Tryz.ntmps227
 go_wp2_with fail
 go_loopw [8, 19] (fun cv v wr => ∃ (i c : Nat) (L' : List Nat), i ≤ xs.length ∧ v = .int .i64 i ∧ cv = .int .u64 c ∧ MulV xs L y r i c L' ∧ (∀ j a, i ≤ j → xs[j]? = some a → wr.cell? ⟨gx, j, none⟩ = some (wd a)) ∧ wr.ownsRow b0 291 1 (.slice (some ⟨gz, 0, none⟩) N cz) N (L'.map wd) ∧ FrameG w wr gz) (fun _ v _ => xs.length - (intOf v).toNat)
 case atStart => exact ⟨0, r, L, Nat.zero_le _, rfl, rfl, ⟨rfl, hr, fun _ _ => rfl, by simp, by simp [wVal]⟩, fun j a _ h => HX.out j a h, HO.out, FrameG.refl _ _⟩
 case round =>
  obtain ⟨i, c, L', hi, rfl, rfl, hM, hc, ho, hf⟩ := hrel
  have hlen := hM.len
  by_cases hlt : (i : Int) < xs.length
  ·have hi' : i < xs.length := by omega
   have hxi : xs[i]? = some xs[i] := List.getElem?_eq_getElem hi'
   have hxb := Hx.out xs[i] (List.getElem_mem hi')
   have c0 := hc i _ (Nat.le_refl _) hxi
   obtain ⟨q, hq⟩ : ∃ q, L'[i]? = some q := ⟨_, List.getElem?_eq_getElem (by omega)⟩
   obtain ⟨g0, g1⟩ := own_get ho (wd_at hq)
   have hstep := hM.step hi' (by omega) hxb hy
   have hcall := mulAdd_any xs[i] y c hxb hy hM.small wr
   have hO2 := own_set ho (k := i) (by omega) (wd ((xs[i] * y + c) % 18446744073709551616))
   rw [← List.map_set] at hO2
   have hc2 : ∀ j a, i + 1 ≤ j → xs[j]? = some a → (wr.setCell ⟨gz, i, none⟩ (wd ((xs[i] * y + c) % 18446744073709551616))).cell? ⟨gx, j, none⟩ = some (wd a) := fun j a hj ha => by
    have := hc j a (by omega) ha
    rw [← this]
    have hne : (⟨gz, i, none⟩ : Addr) ≠ ⟨gx, j, none⟩ := by
     intro e
     injection e with _ e
     omega
    exact World.cell?_setCell_other (h := hne) ..
   have Hcall := Lib.hid hcall
   have Hstep := Lib.hid hstep
   have HO2 := Lib.hid hO2
   have Hc2 := Lib.hid hc2
   have HF := Lib.hid (hf.set (o := i) (wd ((xs[i] * y + c) % 18446744073709551616)))
   clear hM hc ho hf hxi hq hstep hcall hO2 hc2
   generalize (xs[i] * y + c) / 18446744073709551616 = c' at Hcall Hstep
   generalize (xs[i] * y + c) % 18446744073709551616 = t at Hcall Hstep HO2 Hc2 HF
   go_wp2_with fail
   refine Hcall.out.mono ?_
   rintro e w2 ⟨rfl, rfl⟩
   go_wp2_with fail
   go_roundw
   case rel => exact ⟨i + 1, c', _, by omega, by go_num, rfl, Hstep.out, Hc2.out, HO2.out, HF.out⟩
   case measure => simp [intOf]; omega
  ·obtain rfl : i = xs.length := by omega
   have HM := Lib.hid hM
   have HO := Lib.hid ho
   clear hM ho hc
   go_wp2_with fail
   go_ret
   exact ⟨c, rfl, L', HM.out, HO.out, hf⟩
end Go.Proofs.YtammjbmfiakbnaaGreatDoor
namespace Go.Proofs.YtammjbmfiakbnaaGreatDoor
open Go.RowKit
theorem own_widen {w : World} {b0 g n cap m : Nat} {e : TypeId} {xs : List Value} (h : w.ownsRow b0 e 1 (.slice (some ⟨g, 0, none⟩) n cap) n xs) (h1 : n ≤ m) (h2 : m ≤ cap) :
  ∃ ys : List Value, ys.length = m ∧ ys.take n = xs ∧ w.ownsRow b0 e 1 (.slice (some ⟨g, 0, none⟩) m cap) m ys := by
 obtain ⟨_, h⟩ := h
 rcases h with ⟨h, _⟩ | ⟨g', cap', cur, hv, hb, hg, hc, hm, hs, ht⟩
 ·cases h
 ·injection hv with hv1 hv2 hv3; injection hv1 with hv1; injection hv1 with hv1; subst hv1; subst hv3
  have hcl : cur.toList.length = cap := by simpa using hs
  refine ⟨cur.toList.take m, by simp; omega, ?_, by simp; omega, .inr ⟨g, cap, cur, rfl, hb, hg, h2, hm, hs, by simp⟩⟩
  rw [List.take_take, ← ht]
  congr 1
  omega
theorem wVal_take0 : ∀ (l : List Nat) (k : Nat), (∀ j a, k ≤ j → l[j]? = some a → a = 0) → wVal (l.take k) = wVal l
 |[], k, _ => by simp [wVal]
 |a :: r, 0, h => by
  have h0 := h 0 a (Nat.le_refl _) rfl
  have := wVal_take0 r 0 (fun j b _ hb => h (j + 1) b (Nat.zero_le _) (by simpa using hb))
  simp only [List.take_zero, wVal] at this ⊢
  omega
 |a :: r, k + 1, h => by
  have := wVal_take0 r k (fun j b hj hb => h (j + 1) b (by omega) (by simpa using hb))
  simp only [List.take_succ_cons, wVal, this]
/-- No nought at the end. -/
def Nrm (l : List Nat) : Prop := l.getLast? ≠ some 0
/-- A number: a row of words of the call's own, no nought at its end. -/
def NatW (w : World) (b0 : Nat) (v : Value) (l : List Nat) : Prop := w.ownsRow b0 291 1 v l.length (l.map wd) ∧ (∀ a ∈ l, a < 18446744073709551616) ∧ Nrm l
set_option maxRecDepth 100000 in
theorem norm_any (l : List Nat) (hl : l.length ≤ 1000000) (b0 : Nat) (v : Value) (w : World) (ho : w.ownsRow b0 291 1 v l.length (l.map wd)) (hw : ∀ a ∈ l, a < 18446744073709551616) :
  Calls Tryz.prog 187 #[v] w fun e w' => ∃ v' l', e = .returned v' ∧ NatW w b0 v' l' ∧ wVal l' = wVal l ∧ l'.length ≤ l.length ∧ w' = w ∧ v'.ownBlock = v.ownBlock := by
 obtain ⟨A, c, rfl, hc⟩ := ownB_slice ho
 have hcm := own_cap ho
 unfold maxLen at hcm
 have HO := Lib.hid ho
 have HW := Lib.hid hw
 clear ho hw
 go_enter Tryz.func187, Tryz.ntmps187
 go_wp2_with fail
 go_loopw [3] (fun v wr => ∃ k : Nat, k ≤ l.length ∧ v = .int .i64 k ∧ (∀ j a, k ≤ j → l[j]? = some a → a = 0) ∧ wr = w) (fun v _ => (intOf v).toNat)
 case atStart => exact ⟨l.length, Nat.le_refl _, rfl, fun j a hj ha => (by rw [List.getElem?_eq_none hj] at ha; cases ha), by first | trivial | rfl⟩
 case round =>
  obtain ⟨k, hk, rfl, hz, hwr⟩ := hrel
  have hwr : w = wr := hwr.symm
  subst hwr
  have Hz := Lib.hid hz
  clear hz
  have fin : (k = 0 ∨ 0 < k ∧ ∃ a, l[k - 1]? = some a ∧ a ≠ 0) → ∃ v' l', (Value.slice A k c) = v' ∧ NatW w b0 v' l' ∧ wVal l' = wVal l ∧ l'.length ≤ l.length ∧ v'.ownBlock = (Value.slice A l.length c).ownBlock := fun hlast => by
   refine ⟨_, l.take k, rfl, ⟨?_, fun a ha => HW.out a (List.mem_of_mem_take ha), fun e => ?_⟩, wVal_take0 l k Hz.out, by simp; omega, by cases A <;> rfl⟩
   ·have hlk : (l.take k).length = k := by simp; omega
    rw [hlk]
    cases A with
    |none =>
     have hl0 := HO.out.2
     rcases hl0 with ⟨hv, hl0⟩ | ⟨_, _, _, hv, _⟩
     ·injection hv with _ h1 h2
      have : k = 0 := by omega
      subst this
      rw [h2]
      exact World.ownsRow_nil _ _ _ _
     ·cases hv
    |some ad =>
     rcases HO.out.2 with ⟨hv, _⟩ | ⟨g, _, _, hv, _⟩
     ·cases hv
     ·injection hv with hv
      injection hv with hv
      subst hv
      have := own_cut HO.out hk
      rwa [← List.map_take] at this
   ·rcases hlast with rfl | ⟨hk0, a, ha, ha0⟩
    ·simp at e
    ·have hk1 := (List.getElem?_eq_some_iff.1 ha).1
     rw [List.getLast?_eq_getElem?, List.length_take, Nat.min_eq_left hk, List.getElem?_take, if_pos (by omega), ha] at e
     injection e with e
     exact ha0 e
  have Fin := Lib.hid fin
  clear fin
  by_cases hk0 : (k : Int) = 0
  ·obtain rfl : k = 0 := by omega
   obtain ⟨v', l', hv', h1, h2, h3, h4⟩ := Fin.out (.inl rfl)
   subst hv'
   have H1 := Lib.hid h1
   clear h1 Fin Hz
   go_wp2_with fail
   go_ret
   exact ⟨_, rfl, l', H1.out, h2, h3, by first | trivial | rfl, h4⟩
  ·obtain ⟨p, rfl⟩ : ∃ p, k = p + 1 := ⟨k - 1, by omega⟩
   have hp : l[p]? = some l[p] := List.getElem?_eq_getElem (by omega)
   obtain ⟨g, c', hA, hg⟩ := own_form1 HO.out (by omega)
   injection hA with hA _ hc'
   subst hA
   subst hc'
   obtain ⟨c0, -⟩ := own_get HO.out (wd_at hp)
   have hw0 := HW.out _ (List.getElem_mem (show p < l.length by omega))
   have hpl : p < l.length := by omega
   by_cases ha : l[p] = 0
   ·have e0 : ((l[p] : Int) == 0) = true := by simp [ha]
    have Hz2 : Hid (∀ j a, p ≤ j → l[j]? = some a → a = 0) := Lib.hid (fun j a hj hja => by
     by_cases hjp : j = p
     ·subst hjp
      rw [hp] at hja
      injection hja with hja
      omega
     ·exact Hz.out j a (by omega) hja)
    have Hc0 := Lib.hid c0
    generalize l[p] = x at c0 e0 ha
    subst ha
    clear hp Fin Hz
    go_wp2_with fail
    go_roundw
    case rel => exact ⟨p, by omega, by go_num, Hz2.out, by first | trivial | rfl⟩
    case measure => simp [intOf]
   ·have e0 : ((l[p] : Int) == 0) = false := beq_eq_false_iff_ne.2 (by omega)
    obtain ⟨v', l', hv', h1, h2, h3, h4⟩ := Fin.out (.inr ⟨by omega, l[p], hp, ha⟩)
    subst hv'
    have H1 := Lib.hid h1
    clear h1 Fin Hz hp
    generalize l[p] = x at c0 e0 ha
    go_wp2_with fail
    go_ret
    exact ⟨_, rfl, l', H1.out, h2, h3, by first | trivial | rfl, h4⟩
theorem info291 : (Tryz.prog.info? 291).map (fun i => (i.zero, i.size, i.bytes)) = some (some (.int .u64 0), 1, 8) := by kernel_rfl
theorem mk_words (n c : Nat) (hnc : n ≤ c) (hc : c ≤ 1099511627776) (W : World) : (Instr.makeSlice 112 (.int .i64 (n : Int)) (.int .i64 (c : Int))).run Tryz.prog W = .ok (.slice (some ⟨W.heap.size, 0, none⟩) n c) (W.alloc (.cells (madeCells #[wd 0] c) 291)) := by
 obtain ⟨i0, hi0, hz0, hz1, hz2⟩ := info_parts info291
 have h := run_make (P := Tryz.prog) W 112 291 i0 _ Tryz.underlying112 hi0 hz0 .i64 .i64 (n : Int) (c : Int) (by omega) (by omega) (by rw [hz2]; omega) (by omega)
 rw [hz1, Nat.mul_one] at h
 simp only [Int.toNat_natCast] at h
 exact h
theorem mk_words_own {w0 W : World} (h : w0.heap.size ≤ W.heap.size) (n c : Nat) (hnc : n ≤ c) (hc : c ≤ 1099511627776) : (W.alloc (.cells (madeCells #[wd 0] c) 291)).ownsRow w0.heap.size 291 1 (.slice (some ⟨W.heap.size, 0, none⟩) n c) n ((List.replicate n 0).map wd) := by
 refine ⟨by simp, .inr ⟨W.heap.size, c, _, rfl, h, Blk.new W 291 _, hnc, by unfold maxLen; omega, by rw [size_madeCells, Nat.mul_one], ?_⟩⟩
 rw [toList_madeCells_one, List.map_replicate, List.take_replicate]
 congr 1
 omega
/-- What make gives: the row itself made longer, or a new one. -/
def MakeQ (w : World) (A : Option Addr) (cap m : Nat) (v' : Value) (w' : World) : Prop :=
 (m ≤ cap ∧ w' = w ∧ v' = .slice A m cap) ∨ (cap < m ∧ ∃ c', m ≤ c' ∧ c' ≤ 1099511627776 ∧ v' = .slice (some ⟨w.heap.size, 0, none⟩) m c' ∧ w' = w.alloc (.cells (madeCells #[wd 0] c') 291))
set_option maxRecDepth 100000 in
theorem make_any (A : Option Addr) (n cap m : Nat) (hc : n ≤ cap) (hcm : cap ≤ maxLen) (hA : 1 ≤ cap → A.isSome) (hm : 1 ≤ m) (hm2 : m ≤ 1000000) (w : World) :
  Calls Tryz.prog 136 #[.slice A n cap, .int .i64 m] w fun e w' => ∃ v', e = .returned v' ∧ MakeQ w A cap m v' w' := by
 unfold maxLen at hcm
 by_cases h : (m : Int) ≤ cap
 ·cases A with
  |none => have := hA (by omega); simp at this
  |some a =>
   have hmc : m ≤ cap := by omega
   go_enter Tryz.func136, Tryz.ntmps136
   go_wp2_with fail
   go_ret
   exact ⟨_, rfl, .inl ⟨by omega, rfl, rfl⟩⟩
 ·by_cases h1 : m = 1
  ·subst h1
   have hmk : ∀ W : World, (Instr.makeSlice 112 (.int .i64 1) (.int .i64 1)).run Tryz.prog W = .ok (.slice (some ⟨W.heap.size, 0, none⟩) 1 1) (W.alloc (.cells (madeCells #[wd 0] 1) 291)) := mk_words 1 1 (by omega) (by omega)
   go_enter Tryz.func136, Tryz.ntmps136
   go_wp2_with fail
   go_ret
   exact ⟨_, rfl, .inr ⟨by omega, 1, by omega, by omega, rfl, rfl⟩⟩
  ·have hmk := mk_words m (m + 4) (by omega) (by omega)
   rw [show ((m + 4 : Nat) : Int) = (m : Int) + 4 by omega] at hmk
   have h1' : ((m : Int) == 1) = false := beq_eq_false_iff_ne.2 (by omega)
   clear h1
   go_enter Tryz.func136, Tryz.ntmps136
   go_wp2_with fail
   go_ret
   exact ⟨_, rfl, .inr ⟨by omega, m + 4, by omega, by omega, rfl, rfl⟩⟩
/-- A number's row after a change: the same row, or a new one; nothing else is written. -/
structure Grow (w w' : World) (v v' : Value) : Prop where
 os : w'.os = w.os
 tape : w'.tape = w.tape
 output : w'.output = w.output
 size : w.heap.size ≤ w'.heap.size
 rest : ∀ k, k < w.heap.size → v.ownBlock ≠ some k → w'.heap[k]? = w.heap[k]?
 row : v'.ownBlock = v.ownBlock ∨ ∃ k, v'.ownBlock = some k ∧ w.heap.size ≤ k
theorem Grow.refl (w : World) (v v' : Value) (h : v'.ownBlock = v.ownBlock) : Grow w w v v' := ⟨rfl, rfl, rfl, Nat.le_refl _, fun _ _ _ => rfl, .inl h⟩
theorem Grow.alloc (w : World) (o : Obj) (v v' : Value) (h : v'.ownBlock = some w.heap.size) : Grow w (w.alloc o) v v' :=
 ⟨rfl, rfl, rfl, ((Ext.refl w).alloc o).size, fun k hk _ => ((Ext.refl w).alloc o).block k hk, .inr ⟨_, h, Nat.le_refl _⟩⟩
theorem Grow.trans {a b c : World} {v v1 v2 : Value} (h : Grow a b v v1) (k : Grow b c v1 v2) : Grow a c v v2 :=
 ⟨k.os.trans h.os, k.tape.trans h.tape, k.output.trans h.output, Nat.le_trans h.size k.size, fun i hi hv => (k.rest i (Nat.lt_of_lt_of_le hi h.size) (by
   rcases h.row with e | ⟨q, e, hq⟩
   ·rw [e]; exact hv
   ·rw [e]; intro e'; injection e' with e'; omega)).trans (h.rest i hi hv), by
  rcases k.row with e | ⟨q, e, hq⟩
  ·rcases h.row with e' | ⟨q, e', hq⟩
   ·exact .inl (e.trans e')
   ·exact .inr ⟨q, e.trans e', hq⟩
  ·exact .inr ⟨q, e, Nat.le_trans h.size hq⟩⟩
theorem Grow.of_G {w w' : World} {g : Nat} (h : FrameG w w' g) (v v' : Value) (hv : v.ownBlock = some g) (hv' : v'.ownBlock = some g) : Grow w w' v v' :=
 ⟨h.os, h.tape, h.output, by rw [h.size]; exact Nat.le_refl _, fun k _ hk => h.rest k (by rintro rfl; exact hk hv), .inl (hv'.trans hv.symm)⟩
theorem Grow.ext {w0 w w' : World} {v v' : Value} (h : Grow w w' v v') (he : Ext w0 w) (hv : ∀ k, v.ownBlock = some k → w0.heap.size ≤ k) : Ext w0 w' :=
 ⟨h.os.trans he.os, h.tape.trans he.tape, h.output.trans he.output, Nat.le_trans he.size h.size, fun k hk => (h.rest k (by have := he.size; omega) (fun e => by have := hv k e; omega)).trans (he.block k hk)⟩
set_option maxRecDepth 100000 in
/-- setWord. -/
theorem setWord_any (A : Option Addr) (cap x : Nat) (w0 w : World) (hx : x < 18446744073709551616) (h0 : w0.heap.size ≤ w.heap.size) (ho : w.ownsRow w0.heap.size 291 1 (.slice A 0 cap) 0 []) :
  Calls Tryz.prog 219 #[.slice A 0 cap, .int .u64 x] w fun e w' => ∃ v' l', e = .returned v' ∧ NatW w' w0.heap.size v' l' ∧ wVal l' = x ∧ l'.length ≤ 1 ∧ Grow w w' (.slice A 0 cap) v' := by
 have hcm := own_cap ho
 have hA : 1 ≤ cap → A.isSome := fun h => by
  rcases ho.2 with ⟨hv, _⟩ | ⟨_, _, _, hv, _⟩
  ·injection hv with _ _ hv; omega
  ·injection hv with hv; subst hv; rfl
 by_cases hx0 : x = 0
 ·subst hx0
  have HO := Lib.hid ho
  unfold maxLen at hcm
  clear ho hA
  go_enter Tryz.func219, Tryz.ntmps219
  go_wp2_with fail
  go_ret
  exact ⟨_, [], rfl, ⟨HO.out, by simp, by simp [Nrm]⟩, rfl, by simp, Grow.refl _ _ _ rfl⟩
 ·have hx0' : ((x : Int) == 0) = false := beq_eq_false_iff_ne.2 (by omega)
  have hm := make_any A 0 cap 1 (Nat.zero_le _) hcm hA (Nat.le_refl _) (by omega) w
  have HO := Lib.hid ho
  have Hm := Lib.hid hm
  have Hx0 := Lib.hid hx0
  clear ho hA hm hx0
  go_enter Tryz.func219, Tryz.ntmps219
  go_wp2_with fail
  refine Hm.out.mono ?_
  rintro e w1 ⟨v1, rfl, hq⟩
  have hv : ∃ g c1, v1 = .slice (some ⟨g, 0, none⟩) 1 c1 ∧ (∃ ys, w1.ownsRow w0.heap.size 291 1 v1 1 ys ∧ ys.length = 1) ∧ Grow w w1 (.slice A 0 cap) v1 := by
   rcases hq with ⟨h1, rfl, rfl⟩ | ⟨h1, c', h2, h3, rfl, rfl⟩
   ·rcases HO.out.2 with ⟨hv, _⟩ | ⟨g, c1, _, hv, _⟩
    ·injection hv with _ _ hv; omega
    ·injection hv with hv _ hv2
     subst hv; subst hv2
     obtain ⟨ys, hy1, -, hy2⟩ := own_widen HO.out (Nat.zero_le 1) h1
     exact ⟨g, cap, rfl, ⟨ys, hy2, hy1⟩, Grow.refl _ _ _ rfl⟩
   ·exact ⟨w.heap.size, c', rfl, ⟨_, mk_words_own h0 1 c' h2 h3, by simp⟩, Grow.alloc _ _ _ _ rfl⟩
  obtain ⟨g, c1, rfl, ⟨ys, ho1, hy⟩, hgr⟩ := hv
  obtain ⟨q, hyq⟩ : ∃ q, ys = [q] := List.length_eq_one_iff.1 hy
  subst hyq
  obtain ⟨g0, g1⟩ := own_get ho1 (show [q][0]? = some q from rfl)
  have hO2 := own_set ho1 (k := 0) (by omega) (wd x)
  have hc1 : 1 ≤ c1 ∧ c1 ≤ maxLen := (own_bounds ho1).2.2
  unfold maxLen at hc1
  obtain ⟨hc1, hc2⟩ := hc1
  have HO2 : Hid (NatW (w1.setCell ⟨g, 0, none⟩ (wd x)) w0.heap.size (.slice (some ⟨g, 0, none⟩) 1 c1) [x]) := Lib.hid ⟨hO2, by simpa using hx, by simpa [Nrm] using Hx0.out⟩
  have HG := Lib.hid (hgr.trans (Grow.of_G ((FrameG.refl w1 g).set (o := 0) (wd x)) (.slice (some ⟨g, 0, none⟩) 1 c1) (.slice (some ⟨g, 0, none⟩) 1 c1) rfl rfl))
  clear ho1 hO2 hgr hq
  go_wp2_with fail
  go_ret
  exact ⟨_, [x], rfl, HO2.out, by simp [wVal], by simp, HG.out⟩
theorem mulvw_any (y r : Nat) (hy : y < 18446744073709551616) (hr : r < 18446744073709551616) (xs : List Nat) (hx : ∀ a ∈ xs, a < 18446744073709551616) (hn40 : xs.length ≤ 1000000) (b0 gz cz cz' gx cx N : Nat) (L : List Nat) (w : World)
  (hown : w.ownsRow b0 291 1 (.slice (some ⟨gz, 0, none⟩) N cz) N (L.map wd)) (hN : xs.length ≤ N) (hxs : ∀ j a, xs[j]? = some a → w.cell? ⟨gx, j, none⟩ = some (wd a)) :
  Calls Tryz.prog 220 #[.slice (some ⟨gz, 0, none⟩) xs.length cz', .slice (some ⟨gx, 0, none⟩) xs.length cx, .int .u64 y, .int .u64 r] w
   fun e w' => ∃ (c : Nat) (L' : List Nat), e = .returned (.int .u64 c) ∧ MulV xs L y r xs.length c L' ∧ w'.ownsRow b0 291 1 (.slice (some ⟨gz, 0, none⟩) N cz) N (L'.map wd) ∧ FrameG w w' gz := by
 have h := Lib.hid (mulv_any y r hy hr xs hx hn40 b0 gz cz cz' gx cx N L w hown hN hxs)
 clear hown hxs hx
 go_enter Tryz.func220, Tryz.ntmps220
 go_wp2_with fail
 refine h.out.mono ?_
 rintro e w' ⟨c, L', rfl, h1, h2, h3⟩
 have H1 := Lib.hid h1
 have H2 := Lib.hid h2
 clear h1 h2
 go_wp2_with fail
 go_ret
 exact ⟨c, L', rfl, H1.out, H2.out, h3⟩
set_option maxRecDepth 100000 in
set_option maxHeartbeats 2000000 in
/-- mulAddWW: a number times a word, and a word more. -/
theorem mulAddWW_any (v : Value) (l : List Nat) (y r : Nat) (w0 w : World) (hy : y < 18446744073709551616) (hy0 : 0 < y) (hr : r < 18446744073709551616) (h0 : w0.heap.size ≤ w.heap.size) (hl : l.length ≤ 1000) (ho : NatW w w0.heap.size v l) :
  Calls Tryz.prog 207 #[v, v, .int .u64 y, .int .u64 r] w fun e w' => ∃ v' l', e = .returned v' ∧ NatW w' w0.heap.size v' l' ∧ wVal l' = wVal l * y + r ∧ l'.length ≤ l.length + 1 ∧ Grow w w' v v' := by
 obtain ⟨ho, hw, hnr⟩ := ho
 obtain ⟨A, cap, rfl, hc⟩ := ownB_slice ho
 have hcm := own_cap ho
 cases l with
 |nil =>
  have hs := setWord_any A cap r w0 w hr h0 ho
  have Hs := Lib.hid hs
  clear hs ho
  go_enter Tryz.func207, Tryz.ntmps207
  go_wp2_with fail
  refine Hs.out.mono ?_
  rintro e w1 ⟨v', l', rfl, h1, h2, h3, h4⟩
  have H1 := Lib.hid h1
  have H4 := Lib.hid h4
  clear h1 h4
  go_wp2_with fail
  go_ret
  exact ⟨_, l', rfl, H1.out, by rw [h2]; simp [wVal], by simpa using h3, H4.out⟩
 |cons a t =>
  obtain ⟨g, cap', hA, hg⟩ := own_form1 ho (by simp)
  injection hA with hA _ hcap
  subst hA
  subst hcap
  have hm := make_any (some ⟨g, 0, none⟩) (a :: t).length cap ((a :: t).length + 1) hc hcm (fun _ => rfl) (by omega) (by simp at hl ⊢; omega) w
  have hml : (((a :: t).length : Int) == 0) = false := beq_eq_false_iff_ne.2 (by simp; omega)
  have hy0' : ((y : Int) == 0) = false := beq_eq_false_iff_ne.2 (by omega)
  have hpos : 0 < (a :: t).length := by simp
  generalize a :: t = l at *
  have hl1 : (l.length : Int) + 1 ≤ 1001 := by omega
  have Hm := Lib.hid hm
  have HO := Lib.hid ho
  have HW := Lib.hid hw
  clear hm ho hw hnr hy0
  unfold maxLen at hcm
  go_enter Tryz.func207, Tryz.ntmps207
  go_wp2_with fail
  have e1 : ((l.length + 1 : Nat) : Int) = (l.length : Int) + 1 := by omega
  rw [e1] at Hm
  refine Hm.out.mono ?_
  rintro e w1 ⟨v1, rfl, hq⟩
  have hv : ∃ (g1 c1 : Nat) (L : List Nat), v1 = .slice (some ⟨g1, 0, none⟩) (l.length + 1) c1 ∧ l.length + 1 ≤ c1 ∧ c1 ≤ maxLen ∧ w1.ownsRow w0.heap.size 291 1 (.slice (some ⟨g1, 0, none⟩) l.length c1) l.length (L.map wd) ∧ (∀ j a, l[j]? = some a → w1.cell? ⟨g, j, none⟩ = some (wd a)) ∧ Grow w w1 (.slice (some ⟨g, 0, none⟩) l.length cap) v1 := by
   rcases hq with ⟨h1, rfl, rfl⟩ | ⟨h1, c', h2, h3, rfl, rfl⟩
   ·exact ⟨g, cap, l, rfl, h1, by unfold maxLen; omega, HO.out, fun j a ha => (own_get HO.out (wd_at ha)).1, Grow.refl _ _ _ rfl⟩
   ·refine ⟨w.heap.size, c', List.replicate l.length 0, rfl, h2, by unfold maxLen; omega, mk_words_own h0 l.length c' (by omega) h3, fun j a ha => ?_, Grow.alloc _ _ _ _ rfl⟩
    exact ((Ext.refl w).alloc _).cellS (own_get HO.out (wd_at ha)).1
  obtain ⟨g1, c1, L, rfl, hc1, hc2, hoL, hxs, hgr⟩ := hv
  have hLl : L.length = l.length := by simpa using hoL.1
  have hcall := mulvw_any y r hy hr l HW.out (by omega) w0.heap.size g1 c1 c1 g cap l.length L w1 hoL (Nat.le_refl _) hxs
  have Hcall := Lib.hid hcall
  have Hgr := Lib.hid hgr
  unfold maxLen at hc2
  clear hcall hgr hoL hxs hq
  go_wp2_with fail
  refine Hcall.out.mono ?_
  rintro e w2 ⟨cr, L', rfl, hM, ho2, hf⟩
  obtain ⟨ys, hy1, hy2, hoy⟩ := own_widen ho2 (Nat.le_succ _) hc1
  obtain ⟨q, hyq⟩ : ∃ q, ys[l.length]? = some q := ⟨_, List.getElem?_eq_getElem (by omega)⟩
  obtain ⟨g0, gf⟩ := own_get hoy hyq
  have hO3 := own_set hoy (k := l.length) (by omega) (wd cr)
  have hL' : L'.length = l.length := by rw [hM.len, hLl]
  have hlist : ys.set l.length (wd cr) = (L' ++ [cr]).map wd := by
   rw [List.map_append, List.set_eq_take_append_cons_drop]
   rw [if_pos (by omega), hy2, List.drop_eq_nil_of_le (by omega)]
   rfl
  rw [hlist] at hO3
  have hval : wVal (L' ++ [cr]) = wVal l * y + r := by
   have h1 := hM.sum
   rw [← hL', List.take_length] at h1
   rw [hL', List.take_length] at h1
   rw [wVal_append, hL']
   simp only [wVal, Nat.mul_zero, Nat.add_zero]
   rw [h1, Nat.mul_comm]
  have hwords : ∀ a ∈ L' ++ [cr], a < 18446744073709551616 := fun a ha => by
   rcases List.mem_append.1 ha with ha | ha
   ·exact hM.words a (by rw [← hL', List.take_length]; exact ha)
   ·simp at ha; rw [ha]; exact hM.small
  have hll : (L' ++ [cr]).length = l.length + 1 := by simp [hL']
  have hnrm := norm_any (L' ++ [cr]) (by omega) w0.heap.size (.slice (some ⟨g1, 0, none⟩) (l.length + 1) c1) (w2.setCell ⟨g1, l.length, none⟩ (wd cr)) (by rw [hll]; exact hO3) hwords
  have Hnrm := Lib.hid hnrm
  have HG := Lib.hid (Hgr.out.trans (Grow.of_G (hf.set (o := l.length) (wd cr)) (.slice (some ⟨g1, 0, none⟩) (l.length + 1) c1) (.slice (some ⟨g1, 0, none⟩) (l.length + 1) c1) rfl rfl))
  have Hval := Lib.hid hval
  have Hll := Lib.hid hll
  clear hnrm hO3 hoy ho2 hM hf hy1 hy2 hyq hlist hval hwords hll hL' hLl
  go_wp2_with fail
  refine Hnrm.out.mono ?_
  rintro e w3 ⟨v3, l3, rfl, h1, h2, h3, rfl, h4⟩
  have H1 := Lib.hid h1
  clear h1
  go_wp2_with fail
  go_ret
  exact ⟨_, l3, rfl, H1.out, by rw [h2, Hval.out], by have := Hll.out; omega, HG.out.trans (Grow.refl _ _ _ h4)⟩
end Go.Proofs.YtammjbmfiakbnaaGreatDoor
