/- A part of the proof that the card of laws.FnMarshal holds. No conditions. -/
import Derived.Test.YtammjbmfiakbnaaGreatDoorM13
import Derived.Test.YtammjbmfiakbnaaGreatDoorLen
import Derived.Test.YtammjbmfiakbnaaGreatDoorM03
import Derived.Test.YtammjbmfiakbnaaGreatDoorM06
import Derived.Test.YtammjbmfiakbnaaGreatDoorM05
import Derived.Deep.QuietTactic
import Derived.BigQuiet
set_option linter.unusedSimpArgs false
set_option linter.unusedVariables false
namespace Go.Proofs.YtammjbmfiakbnaaGreatDoor
open Go.RowKit
set_option maxRecDepth 100000 in
theorem uuidBytes_any (l : List UInt8) (hl : l.length = 16) (w : World) : Calls Tryz.prog 95 #[.agg (l.map byteV).toArray] w fun e w' => ∃ r, e = .returned r ∧ (Out l r w' ∧ New w r) ∧ Ext w w' := by
 have hcl : (l.map byteV).length = 16 := by simp [hl]
 generalize hcs : l.map byteV = cs at *
 have Hcs := Lib.hid hcs
 clear hcs
 go_enter Tryz.func95, Tryz.ntmps95
 go_wp2_with fail
 go_ret
 refine ⟨_, rfl, ⟨⟨w.heap.size, 0, 16, _, 120, _, (by rw [hl]; rfl), by omega, heap_alloc_new w _, by decide, by decide, fun j u hu => ?_⟩, ⟨_, _, _, _, rfl, Nat.le_refl _⟩⟩, (Ext.refl w).alloc _⟩
 rw [Hcs.out] at hu
 rw [Nat.zero_add]
 simpa using hu
set_option maxRecDepth 100000 in
theorem mar_uuid (l : List UInt8) (hl : l.length = 16) (I : Value) (w : World) (X : Nat → Prop) (hX : ∀ b, X b → b < w.heap.size) : Calls Tryz.prog 65 #[I, .iface 120 (.agg (l.map byteV).toArray)] w (MarQ X l w) := by
 have HXX := Lib.hid hX
 clear hX
 have hc := fun W => uuidBytes_any l hl W
 have Hc := Lib.hid hc
 have hcl : (l.map byteV).length = 16 := by simp [hl]
 have hone : ∀ v ∈ l.map byteV, v.oneCell' = true := by intro u hu; simp only [List.mem_map] at hu; obtain ⟨y, _, rfl⟩ := hu; rfl
 have Hone := Lib.hid hone
 clear hc hone
 generalize hcs : l.map byteV = cs at *
 clear hcs
 have hth : (w.alloc (.cells Z16 120)).there w.heap.size 0 cs.toArray.size := (Blk.new w 120 Z16).there (by simp [hcl])
 have hsz : (Tryz.prog.info? 120).map (·.size) = some cs.toArray.size := by rw [List.size_toArray, hcl]; exact size120
 have hal := all_oneCell_toArray Hone.out
 have Hth := Lib.hid hth
 have Hsz := Lib.hid hsz
 have Hal := Lib.hid hal
 have hrg : ((w.alloc (.cells Z16 120)).setCells w.heap.size 0 cs).rangeAt w.heap.size 0 cs := Blk.range (Blk.setCells (old := Z16.toList) (Blk.new w 120 Z16) (by simp [hcl]))
 have Hrg := Lib.hid hrg
 have hEE : Ext w ((w.alloc (.cells Z16 120)).setCells w.heap.size 0 cs) := ((Ext.refl w).alloc _).setCells (Nat.le_refl _) _
 have HEE := Lib.hid hEE
 clear hth hsz hal hrg hEE
 go_enter Tryz.func65, Tryz.ntmps65
 go_wp2_with (first | (refine wpList_store_mid (op := ⟨none, .store 120 _ _, _, _, _, _⟩) rfl 120 _ _ rfl w.heap.size 0 cs.toArray (by rfl) (by rfl) Hth.out Hsz.out Hal.out ?_) | (refine wpList_load_mid rfl 120 _ rfl w.heap.size 0 (by rfl) cs _ Hrg.out Tryz.underlying120 rfl (by rw [hcl]; exact size120) ?_))
 refine (Hc.out _).mono ?_
 rintro e w1 ⟨r, rfl, hr, hx⟩
 have HO := Lib.hid hr
 have HX := Lib.hid (HEE.out.trans hx)
 have hsz := HEE.out.size
 clear hr hx
 go_wp2_with fail
 go_ret2
 exact ⟨r, rfl, ⟨HO.out.1, HO.out.2.far HXX.out hsz⟩, HX.out⟩
set_option maxRecDepth 100000 in
theorem to4_four (A : Option Addr) (c : Nat) (w : World) : Calls Tryz.prog 98 #[.slice A 4 c] w fun e w' => e = .returned (.slice A 4 c) ∧ w' = w := by
 go_enter Tryz.func98, Tryz.ntmps98
 go_wp2_with fail
 go_ret
 exact ⟨rfl, rfl⟩
set_option maxRecDepth 100000 in
theorem to16_six (A : Option Addr) (c : Nat) (w : World) : Calls Tryz.prog 99 #[.slice A 16 c] w fun e w' => e = .returned (.slice A 16 c) ∧ w' = w := by
 go_enter Tryz.func99, Tryz.ntmps99
 go_wp2_with fail
 go_ret
 exact ⟨rfl, rfl⟩
set_option maxRecDepth 100000 in
theorem to4_six (b o c : Nat) (l : List UInt8) (hl : l.length = 16) (hc : 16 ≤ c) (hcm : c ≤ maxLen) (w : World) (hcell : ∀ j u, (l.map byteV)[j]? = some u → w.cell? ⟨b, o + j, none⟩ = some u) (hm : ¬ Mapped l) :
  Calls Tryz.prog 98 #[.slice (some ⟨b, o, none⟩) 16 c] w fun e w' => e = .returned (.slice none 0 0) ∧ w' = w := by
 unfold maxLen at hcm
 have hat : ∀ j (h : j < 16), w.cell? ⟨b, o + j, none⟩ = some (.int .u8 (l[j].toNat : Int)) := fun j h => hcell j _ (byteV_at (by omega))
 have h10 := hat 10 (by omega)
 have h11 := hat 11 (by omega)
 have Hat := Lib.hid hat
 have Hm := Lib.hid hm
 have hx : ∀ j (h : j < 16), (l[j].toNat : Int) < 256 := fun j h => by have := l[j].toNat_lt; omega
 clear hat hm hcell
 by_cases e10 : (l[10].toNat : Int) = 255
 ·by_cases e11 : (l[11].toNat : Int) = 255
  ·rw [e10] at h10
   rw [e11] at h11
   have E10 := Lib.hid e10
   have E11 := Lib.hid e11
   clear e10 e11 hx
   go_enter Tryz.func98, Tryz.ntmps98
   go_wp2_with fail
   go_loopw [27] (fun v wr => ∃ i : Nat, i ≤ 10 ∧ v = .int .i64 i ∧ (∀ j (h : j < 16), j < i → l[j].toNat = 0) ∧ wr = w) (fun v _ => 10 - (intOf v).toNat)
   case atStart => exact ⟨0, by omega, rfl, fun j _ hj => by omega, by first | trivial | rfl⟩
   case round =>
    obtain ⟨i, hi, rfl, hz, hwr⟩ := hrel
    have hwr : w = wr := hwr.symm
    subst hwr
    have HZ := Lib.hid hz
    clear hz
    by_cases hlt : (i : Int) < 10
    ·have hi16 : i < 16 := by omega
     have hci := Hat.out i hi16
     by_cases h0 : l[i].toNat = 0
     ·rw [h0] at hci
      have hci : w.cell? ⟨b, o + i, none⟩ = some (.int .u8 0) := hci
      have HZ2 : Hid (∀ j (h : j < 16), j < i + 1 → l[j].toNat = 0) := Lib.hid fun j h hj => by
       by_cases hji : j = i
       ·subst hji; exact h0
       ·exact HZ.out j h (by omega)
      clear h0
      go_wp2_with fail
      go_roundw
      case rel => exact ⟨i + 1, by omega, by go_num, HZ2.out, by first | trivial | rfl⟩
      case measure => simp [intOf]; omega
     ·have h0' : ((l[i].toNat : Int) == 0) = false := beq_eq_false_iff_ne.2 (by omega)
      generalize l[i].toNat = x at hci h0 h0'
      clear h0
      go_wp2_with fail
      go_ret
      exact ⟨rfl, rfl⟩
    ·exfalso
     obtain rfl : i = 10 := by omega
     refine Hm.out (fun j u hj hu => ?_)
     have hj16 : j < 16 := by omega
     rw [List.getElem?_eq_getElem (by omega)] at hu
     injection hu with hu
     subst hu
     have z := HZ.out j hj16
     have a := E10.out
     have b' := E11.out
     refine ⟨fun c1 => UInt8.toNat_inj.1 (z c1), fun c1 => ?_⟩
     have : j = 10 ∨ j = 11 := by omega
     rcases this with rfl | rfl
     ·exact UInt8.toNat_inj.1 (by show l[10].toNat = 255; omega)
     ·exact UInt8.toNat_inj.1 (by show l[11].toNat = 255; omega)
  ·have e11' : ((l[11].toNat : Int) == 255) = false := beq_eq_false_iff_ne.2 e11
   rw [e10] at h10
   generalize l[11].toNat = x at h11 e11 e11'
   clear e11 hx e10
   go_enter Tryz.func98, Tryz.ntmps98
   go_wp2_with fail
   go_ret
   exact ⟨rfl, rfl⟩
 ·have e10' : ((l[10].toNat : Int) == 255) = false := beq_eq_false_iff_ne.2 e10
  generalize l[10].toNat = x at h10 e10 e10'
  clear e10 hx
  go_enter Tryz.func98, Tryz.ntmps98
  go_wp2_with fail
  go_ret
  exact ⟨rfl, rfl⟩
set_option maxRecDepth 100000 in
theorem mar_inet (b o c : Nat) (l : List UInt8) (hl : l.length = 4 ∨ (l.length = 16 ∧ ¬ Mapped l)) (hc : l.length ≤ c) (hcm : c ≤ maxLen) (I : Value) (w : World) (hcell : ∀ j u, (l.map byteV)[j]? = some u → w.cell? ⟨b, o + j, none⟩ = some u) (ho : Out l (.slice (some ⟨b, o, none⟩) l.length c) w) (X : Nat → Prop) (hF : ¬ X b) :
  Calls Tryz.prog 67 #[I, .iface 123 (.slice (some ⟨b, o, none⟩) l.length c)] w (MarQ X l w) := by
 have HF : Hid (∀ n, Far X (.slice (some ⟨b, o, none⟩) n c)) := Lib.hid fun n b' o' n' c' e => by
  injection e with e
  injection e with e
  injection e with e
  subst e
  exact hF
 clear hF
 have HO := Lib.hid ho
 clear ho
 have hq1 : ∀ (a : Addr) (n c : Nat) (W : World), (binOp .eql 123 (.slice (some a) n c) (.slice none 0 0)).run Tryz.prog W = .ok (.bool false) W := fun a n c W => Lib.run_eql_slice_nil W 123 5 (some a) n c 0 0 Tryz.underlying123
 have hq2 : ∀ (W : World), (binOp .eql 123 (.slice none 0 0) (.slice none 0 0)).run Tryz.prog W = .ok (.bool true) W := fun W => Lib.run_eql_slice_nil W 123 5 none 0 0 0 0 Tryz.underlying123
 rcases hl with hl | ⟨hl, hm⟩
 ·rw [hl] at HO ⊢
  clear hcell
  go_enter Tryz.func67, Tryz.ntmps67
  go_wp2_with fail
  refine (to4_four _ _ w).mono ?_
  rintro e w1 ⟨rfl, rfl⟩
  go_wp2_with fail
  go_ret2
  exact ⟨_, rfl, ⟨HO.out, HF.out _⟩, Ext.refl _⟩
 ·have H4 := Lib.hid (to4_six b o c l hl (by omega) hcm w hcell hm)
  rw [hl] at HO ⊢
  clear hcell hm
  go_enter Tryz.func67, Tryz.ntmps67
  go_wp2_with fail
  refine H4.out.mono ?_
  rintro e w1 ⟨rfl, rfl⟩
  go_wp2_with fail
  refine (to16_six _ _ w1).mono ?_
  rintro e w2 ⟨rfl, rfl⟩
  go_wp2_with fail
  go_ret2
  exact ⟨_, rfl, ⟨HO.out, HF.out _⟩, Ext.refl _⟩
end Go.Proofs.YtammjbmfiakbnaaGreatDoor
namespace Go.Proofs.YtammjbmfiakbnaaGreatDoor
open Go.RowKit
theorem bitLen_lt (u : Nat) (h : u < 18446744073709551616) : u < 2 ^ Lib.bitLen u := by
 rcases Nat.lt_or_ge u (2 ^ Lib.bitLen u) with hl | hg
 ·exact hl
 ·have h1 := Lib.bitLen_shift (Lib.bitLen u) u hg h
  have hp : 0 < u / 2 ^ Lib.bitLen u := Nat.div_pos hg (Nat.two_pow_pos _)
  have h2 : 1 ≤ Lib.bitLen (u / 2 ^ Lib.bitLen u) := by
   rw [Lib.bitLen_half _ (by omega) (Nat.lt_of_le_of_lt (Nat.div_le_self _ _) h)]
   omega
  omega
theorem bitLen_ge (u : Nat) (h : u < 18446744073709551616) (h1 : 1 ≤ Lib.bitLen u) : 2 ^ (Lib.bitLen u - 1) ≤ u := by
 rcases Nat.lt_or_ge u (2 ^ (Lib.bitLen u - 1)) with hl | hg
 ·have := Lib.bitLen_le u (Lib.bitLen u - 1) (by have := Lib.bitLen_le u 64 (by omega) h; omega) hl
  omega
 ·exact hg
/-- The package's count of bytes is the reference's. -/
theorem vsz_len (u : Nat) (h : u < 18446744073709551616) : vsz u = max 1 ((63 + 9 * Lib.bitLen u) / 64) := by
 have h64 := Lib.bitLen_le u 64 (by omega) h
 have hlt := bitLen_lt u h
 obtain ⟨k, hk⟩ : ∃ k, k = max 1 ((63 + 9 * Lib.bitLen u) / 64) := ⟨_, rfl⟩
 rw [← hk]
 refine vsz_of u k (by omega) (by omega) ?_ ?_
 ·by_cases h1 : k = 1
  ·exact .inl h1
  ·right
   have hge := bitLen_ge u h (by omega)
   refine Nat.le_trans ?_ hge
   rw [show (128 : Nat) = 2 ^ 7 from rfl, ← Nat.pow_mul]
   exact Nat.pow_le_pow_right (by omega) (by omega)
 ·by_cases h9 : k = 9
  ·exact .inl h9
  ·right
   refine Nat.lt_of_lt_of_le hlt ?_
   rw [show (128 : Nat) = 2 ^ 7 from rfl, ← Nat.pow_mul]
   exact Nat.pow_le_pow_right (by omega) (by omega)
set_option maxRecDepth 100000 in
theorem zigzag_any (n : Int) (hn : -9223372036854775808 ≤ n ∧ n ≤ 9223372036854775807) (w : World) : Calls Tryz.prog 176 #[.int .i64 n] w fun e w' => e = .returned (.int .u64 (zz n)) ∧ w' = w := by
 have hzz : IntKind.u64.wrap (bits .xor .i64 (n / 9223372036854775808) (IntKind.i64.wrap (n * 2))) = (zz n : Int) := by
  unfold zz
  by_cases h : 0 ≤ n
  ·have e1 : n / 9223372036854775808 = 0 := by omega
   rw [e1, if_pos h, IntKind.wrap_i64, IntKind.wrap_u64]
   rw [bits_i64_zero _ (by omega) (by omega)]
   omega
  ·have e1 : n / 9223372036854775808 = -1 := by omega
   rw [e1, if_neg h, IntKind.wrap_i64, IntKind.wrap_u64]
   rw [bits_i64_ones _ (by omega) (by omega)]
   omega
 rw [IntWalk.i64_left] at hzz
 go_enter Tryz.func176, Tryz.ntmps176
 go_wp2_with fail
 go_ret
 exact ⟨rfl, rfl⟩
set_option maxRecDepth 100000 in
set_option maxHeartbeats 4000000 in
theorem encVint_any (n : Int) (hn : -9223372036854775808 ≤ n ∧ n ≤ 9223372036854775807) (w : World) : Calls Tryz.prog 131 #[.int .i64 n] w fun e w' => ∃ r, e = .returned r ∧ OwnB w w' r (vintB n) := by
 have hzl := zz_lt n hn
 have hz1 := zigzag_any n hn w
 have hsz := vsz_len (zz n) hzl
 have h64 := Lib.bitLen_le (zz n) 64 (by omega) hzl
 show Calls Tryz.prog 131 #[.int .i64 n] w fun e w' => ∃ r, e = .returned r ∧ OwnB w w' r (vintU (zz n))
 generalize zz n = u at hzl hz1 hsz h64 ⊢
 have hz2 := bits_LeadingZeros64 (u : Int) w (by omega) (by omega)
 rw [Int.toNat_natCast] at hz2
 generalize Lib.bitLen u = b at hz2 hsz h64
 go_enter Tryz.func131, Tryz.ntmps131
 go_wp2_with (go_at_call 176; refine hz1.mono ?_; rintro e w' ⟨rfl, rfl⟩)
 obtain ⟨wp, hwp⟩ : ∃ x, x = w' := ⟨w', rfl⟩
 subst hwp
 obtain ⟨k, hk⟩ : ∃ k, k = (63 + 9 * b) / 64 := ⟨_, rfl⟩
 have hk' : (639 - (64 - (b : Int)) * 9) / 64 = (k : Int) := by omega
 by_cases h1 : (k : Int) ≤ 1
 ·have hv : vintU u = [bt (u : Int)] := by
   have e : vsz u = 1 := by omega
   have : u < 128 := by
    unfold vsz at e
    (repeat' split at e) <;> omega
   simp [vintU, e, vmask, beN]
  have HF : Hid (OwnB wp (wp.alloc (Obj.cells #[Value.int IntKind.u8 ((u : Int) % 256)] 5)) (.slice (some ⟨wp.heap.size, 0, none⟩) 1 1) (vintU u)) := Lib.hid (by
   rw [hv]
   exact ⟨⟨rfl, .inr ⟨wp.heap.size, 1, #[.int .u8 ((u : Int) % 256)], rfl, Nat.le_refl _, Blk.new wp 5 _, Nat.le_refl _, by decide, rfl, by simp [byteV_bt]⟩⟩, (Ext.refl wp).alloc _⟩)
  clear hsz hk hv
  go_wp2_with (go_at_call 177; refine hz2.mono ?_; rintro e w' ⟨rfl, rfl⟩)
  go_ret
  exact ⟨_, rfl, HF.out⟩
 ·have hk9 : 2 ≤ k ∧ k ≤ 9 := by omega
  obtain ⟨hk2, hk9⟩ := hk9
  have hv : vsz u = k := by omega
  have hu128 : k = 9 ∨ u < 128 ^ k := by
   have : k = 2 ∨ k = 3 ∨ k = 4 ∨ k = 5 ∨ k = 6 ∨ k = 7 ∨ k = 8 ∨ k = 9 := by omega
   rcases this with rfl | rfl | rfl | rfl | rfl | rfl | rfl | rfl <;> simp <;> unfold vsz at hv <;> (repeat' split at hv) <;> omega
  have hmk := mk_bytes k (by omega)
  clear hsz hk
  go_wp2_with (go_at_call 177; refine hz2.mono ?_; rintro e w' ⟨rfl, rfl⟩)
  obtain ⟨wp, hwp⟩ : ∃ x, x = w' := ⟨w', rfl⟩
  subst hwp
  have HO := Lib.hid (mk_own (Ext.refl wp) k (by omega))
  clear hmk hz1 hz2 hk'
  go_loopw [3, 8] (fun uv v wr => ∃ (j : Nat) (i : Int) (l : List UInt8), v = .int .i64 i ∧ i + 1 + j = k ∧ j ≤ k ∧ uv = .int .u64 ((u / 256 ^ j : Nat) : Int) ∧ l.length = k ∧ l.drop (k - j) = beN u j ∧ OwnB wp wr (.slice (some ⟨wp.heap.size, 0, none⟩) k k) l) (fun _ v _ => (intOf v + 1).toNat)
  case atStart => exact ⟨0, _, _, rfl, by omega, Nat.zero_le _, by simp, by simp, by simp [beN], HO.out⟩
  case round =>
   obtain ⟨j, i, l, rfl, hij, hj, rfl, hl, hd, hO⟩ := hrel
   by_cases hlt : 0 ≤ i
   ·obtain ⟨p, rfl⟩ : ∃ p : Nat, i = (p : Int) := ⟨i.toNat, by omega⟩
    obtain ⟨x, hx⟩ : ∃ x, l[p]? = some x := ⟨_, List.getElem?_eq_getElem (by omega)⟩
    obtain ⟨c0, f0⟩ := own_get (own_len hO.1 hl) (byteV_some hx)
    have hO2 := OwnB.set (x := u / 256 ^ j % 256) (hl ▸ hO) (k := p) (by omega) (by omega)
    have e9 : ((u / 256 ^ j % 256 : Nat) : Int) = (u : Int) / 256 ^ j % 256 := by simp
    rw [hl, e9] at hO2
    have HO2 := Lib.hid hO2
    have hd2 : (l.set p (UInt8.ofNat (u / 256 ^ j % 256))).drop (k - (j + 1)) = beN u (j + 1) := by
     rw [show k - (j + 1) = p by omega, drop_set_lo (by omega), show p + 1 = k - j by omega, hd, bt_u]
     simp [beN]
    have Hd2 := Lib.hid hd2
    have hpk : p < k := by omega
    have hcast : ((u / 256 ^ j : Nat) : Int) = (u : Int) / 256 ^ j := by simp
    have hb8 : 0 ≤ (u : Int) / 256 ^ j ∧ (u : Int) / 256 ^ j ≤ u := by
     rw [← hcast]
     exact ⟨Int.natCast_nonneg _, Int.ofNat_le.2 (Nat.div_le_self _ _)⟩
    obtain ⟨hb8, hb9⟩ := hb8
    have hx256 := byte_lt x
    have Hl := Lib.hid hl
    have Hij := Lib.hid hij
    rw [hcast]
    clear hO hO2 hd hd2 hl hx hcast hij
    go_wp2_with fail
    go_roundw
    case rel => exact ⟨j + 1, (p : Int) - 1, _, by go_num, by have := Hij.out; omega, by have := Hij.out; omega, by rw [Nat.pow_succ, ← Nat.div_div_eq_div_mul]; simp, by simp [Hl.out], Hd2.out, HO2.out⟩
    case measure => simp [intOf]
   ·obtain rfl : i = -1 := by omega
    obtain rfl : j = k := by omega
    rw [Nat.sub_self, List.drop_zero] at hd
    subst hd
    have HV : Hid (vsz u = j) := Lib.hid hv
    have HO := Lib.hid hO
    have HU := Lib.hid hu128
    clear hv hO hu128 hl hij
    have hcs : j = 2 ∨ j = 3 ∨ j = 4 ∨ j = 5 ∨ j = 6 ∨ j = 7 ∨ j = 8 ∨ j = 9 := by omega
    rcases hcs with rfl | rfl | rfl | rfl | rfl | rfl | rfl | rfl
    ·obtain ⟨q, hq⟩ : ∃ q, q = u / 256 ^ 1 := ⟨_, rfl⟩
     have hqs : q < 64 := by have := HU.out; rw [hq]; omega
     have hx : (beN (u : Int) 2)[0]? = some (UInt8.ofNat q) := by
      show some (bt ((u : Int) / 256 ^ 1)) = _
      rw [show (u : Int) / 256 ^ 1 = (q : Int) by rw [hq]; simp, ← bt_u, show q % 256 = q by omega]
     obtain ⟨c0, f0⟩ := own_get (own_len HO.out.1 (by simp [beN_length])) (byteV_some hx)
     rw [show (((UInt8.ofNat q).toNat : Nat) : Int) = (q : Int) by rw [UInt8.toNat_ofNat']; omega] at c0
     have hor : bits .or .u8 (q : Int) 128 = ((q + 128 : Nat) : Int) := or_mask2 q hqs
     have hnot : bits BinOp.xor IntKind.u8 (if IntKind.u8.signed = true then -1 else IntKind.u8.max) 127 = 128 := by decide
     have hO2 := OwnB.set (x := q + 128) (l := beN (u : Int) 2) HO.out (k := 0) (by simp [beN_length]) (by omega)
     have HF : Hid (OwnB wp (wr.setCell ⟨wp.heap.size, 0, none⟩ (.int .u8 ((q + 128 : Nat) : Int))) (.slice (some ⟨wp.heap.size, 0, none⟩) 2 2) (vintU u)) := Lib.hid (by
      have e : vintU u = (bt ((q + 128 : Nat) : Int)) :: beN u (2 - 1) := by
       unfold vintU
       rw [HV.out, if_neg (by decide), show u / 256 ^ (2 - 1) = q from hq.symm]
       rfl
      rw [← bt_u, show (q + 128) % 256 = q + 128 by omega] at e
      rw [e]
      exact hO2)
     clear hx hO2 hq hqs
     go_wp2_with fail
     go_ret
     exact ⟨_, rfl, HF.out⟩
    ·obtain ⟨q, hq⟩ : ∃ q, q = u / 256 ^ 2 := ⟨_, rfl⟩
     have hqs : q < 32 := by have := HU.out; rw [hq]; omega
     have hx : (beN (u : Int) 3)[0]? = some (UInt8.ofNat q) := by
      show some (bt ((u : Int) / 256 ^ 2)) = _
      rw [show (u : Int) / 256 ^ 2 = (q : Int) by rw [hq]; simp, ← bt_u, show q % 256 = q by omega]
     obtain ⟨c0, f0⟩ := own_get (own_len HO.out.1 (by simp [beN_length])) (byteV_some hx)
     rw [show (((UInt8.ofNat q).toNat : Nat) : Int) = (q : Int) by rw [UInt8.toNat_ofNat']; omega] at c0
     have hor : bits .or .u8 (q : Int) 192 = ((q + 192 : Nat) : Int) := or_mask3 q hqs
     have hnot : bits BinOp.xor IntKind.u8 (if IntKind.u8.signed = true then -1 else IntKind.u8.max) 63 = 192 := by decide
     have hO2 := OwnB.set (x := q + 192) (l := beN (u : Int) 3) HO.out (k := 0) (by simp [beN_length]) (by omega)
     have HF : Hid (OwnB wp (wr.setCell ⟨wp.heap.size, 0, none⟩ (.int .u8 ((q + 192 : Nat) : Int))) (.slice (some ⟨wp.heap.size, 0, none⟩) 3 3) (vintU u)) := Lib.hid (by
      have e : vintU u = (bt ((q + 192 : Nat) : Int)) :: beN u (3 - 1) := by
       unfold vintU
       rw [HV.out, if_neg (by decide), show u / 256 ^ (3 - 1) = q from hq.symm]
       rfl
      rw [← bt_u, show (q + 192) % 256 = q + 192 by omega] at e
      rw [e]
      exact hO2)
     clear hx hO2 hq hqs
     go_wp2_with fail
     go_ret
     exact ⟨_, rfl, HF.out⟩
    ·obtain ⟨q, hq⟩ : ∃ q, q = u / 256 ^ 3 := ⟨_, rfl⟩
     have hqs : q < 16 := by have := HU.out; rw [hq]; omega
     have hx : (beN (u : Int) 4)[0]? = some (UInt8.ofNat q) := by
      show some (bt ((u : Int) / 256 ^ 3)) = _
      rw [show (u : Int) / 256 ^ 3 = (q : Int) by rw [hq]; simp, ← bt_u, show q % 256 = q by omega]
     obtain ⟨c0, f0⟩ := own_get (own_len HO.out.1 (by simp [beN_length])) (byteV_some hx)
     rw [show (((UInt8.ofNat q).toNat : Nat) : Int) = (q : Int) by rw [UInt8.toNat_ofNat']; omega] at c0
     have hor : bits .or .u8 (q : Int) 224 = ((q + 224 : Nat) : Int) := or_mask4 q hqs
     have hnot : bits BinOp.xor IntKind.u8 (if IntKind.u8.signed = true then -1 else IntKind.u8.max) 31 = 224 := by decide
     have hO2 := OwnB.set (x := q + 224) (l := beN (u : Int) 4) HO.out (k := 0) (by simp [beN_length]) (by omega)
     have HF : Hid (OwnB wp (wr.setCell ⟨wp.heap.size, 0, none⟩ (.int .u8 ((q + 224 : Nat) : Int))) (.slice (some ⟨wp.heap.size, 0, none⟩) 4 4) (vintU u)) := Lib.hid (by
      have e : vintU u = (bt ((q + 224 : Nat) : Int)) :: beN u (4 - 1) := by
       unfold vintU
       rw [HV.out, if_neg (by decide), show u / 256 ^ (4 - 1) = q from hq.symm]
       rfl
      rw [← bt_u, show (q + 224) % 256 = q + 224 by omega] at e
      rw [e]
      exact hO2)
     clear hx hO2 hq hqs
     go_wp2_with fail
     go_ret
     exact ⟨_, rfl, HF.out⟩
    ·obtain ⟨q, hq⟩ : ∃ q, q = u / 256 ^ 4 := ⟨_, rfl⟩
     have hqs : q < 8 := by have := HU.out; rw [hq]; omega
     have hx : (beN (u : Int) 5)[0]? = some (UInt8.ofNat q) := by
      show some (bt ((u : Int) / 256 ^ 4)) = _
      rw [show (u : Int) / 256 ^ 4 = (q : Int) by rw [hq]; simp, ← bt_u, show q % 256 = q by omega]
     obtain ⟨c0, f0⟩ := own_get (own_len HO.out.1 (by simp [beN_length])) (byteV_some hx)
     rw [show (((UInt8.ofNat q).toNat : Nat) : Int) = (q : Int) by rw [UInt8.toNat_ofNat']; omega] at c0
     have hor : bits .or .u8 (q : Int) 240 = ((q + 240 : Nat) : Int) := or_mask5 q hqs
     have hnot : bits BinOp.xor IntKind.u8 (if IntKind.u8.signed = true then -1 else IntKind.u8.max) 15 = 240 := by decide
     have hO2 := OwnB.set (x := q + 240) (l := beN (u : Int) 5) HO.out (k := 0) (by simp [beN_length]) (by omega)
     have HF : Hid (OwnB wp (wr.setCell ⟨wp.heap.size, 0, none⟩ (.int .u8 ((q + 240 : Nat) : Int))) (.slice (some ⟨wp.heap.size, 0, none⟩) 5 5) (vintU u)) := Lib.hid (by
      have e : vintU u = (bt ((q + 240 : Nat) : Int)) :: beN u (5 - 1) := by
       unfold vintU
       rw [HV.out, if_neg (by decide), show u / 256 ^ (5 - 1) = q from hq.symm]
       rfl
      rw [← bt_u, show (q + 240) % 256 = q + 240 by omega] at e
      rw [e]
      exact hO2)
     clear hx hO2 hq hqs
     go_wp2_with fail
     go_ret
     exact ⟨_, rfl, HF.out⟩
    ·obtain ⟨q, hq⟩ : ∃ q, q = u / 256 ^ 5 := ⟨_, rfl⟩
     have hqs : q < 4 := by have := HU.out; rw [hq]; omega
     have hx : (beN (u : Int) 6)[0]? = some (UInt8.ofNat q) := by
      show some (bt ((u : Int) / 256 ^ 5)) = _
      rw [show (u : Int) / 256 ^ 5 = (q : Int) by rw [hq]; simp, ← bt_u, show q % 256 = q by omega]
     obtain ⟨c0, f0⟩ := own_get (own_len HO.out.1 (by simp [beN_length])) (byteV_some hx)
     rw [show (((UInt8.ofNat q).toNat : Nat) : Int) = (q : Int) by rw [UInt8.toNat_ofNat']; omega] at c0
     have hor : bits .or .u8 (q : Int) 248 = ((q + 248 : Nat) : Int) := or_mask6 q hqs
     have hnot : bits BinOp.xor IntKind.u8 (if IntKind.u8.signed = true then -1 else IntKind.u8.max) 7 = 248 := by decide
     have hO2 := OwnB.set (x := q + 248) (l := beN (u : Int) 6) HO.out (k := 0) (by simp [beN_length]) (by omega)
     have HF : Hid (OwnB wp (wr.setCell ⟨wp.heap.size, 0, none⟩ (.int .u8 ((q + 248 : Nat) : Int))) (.slice (some ⟨wp.heap.size, 0, none⟩) 6 6) (vintU u)) := Lib.hid (by
      have e : vintU u = (bt ((q + 248 : Nat) : Int)) :: beN u (6 - 1) := by
       unfold vintU
       rw [HV.out, if_neg (by decide), show u / 256 ^ (6 - 1) = q from hq.symm]
       rfl
      rw [← bt_u, show (q + 248) % 256 = q + 248 by omega] at e
      rw [e]
      exact hO2)
     clear hx hO2 hq hqs
     go_wp2_with fail
     go_ret
     exact ⟨_, rfl, HF.out⟩
    ·obtain ⟨q, hq⟩ : ∃ q, q = u / 256 ^ 6 := ⟨_, rfl⟩
     have hqs : q < 2 := by have := HU.out; rw [hq]; omega
     have hx : (beN (u : Int) 7)[0]? = some (UInt8.ofNat q) := by
      show some (bt ((u : Int) / 256 ^ 6)) = _
      rw [show (u : Int) / 256 ^ 6 = (q : Int) by rw [hq]; simp, ← bt_u, show q % 256 = q by omega]
     obtain ⟨c0, f0⟩ := own_get (own_len HO.out.1 (by simp [beN_length])) (byteV_some hx)
     rw [show (((UInt8.ofNat q).toNat : Nat) : Int) = (q : Int) by rw [UInt8.toNat_ofNat']; omega] at c0
     have hor : bits .or .u8 (q : Int) 252 = ((q + 252 : Nat) : Int) := or_mask7 q hqs
     have hnot : bits BinOp.xor IntKind.u8 (if IntKind.u8.signed = true then -1 else IntKind.u8.max) 3 = 252 := by decide
     have hO2 := OwnB.set (x := q + 252) (l := beN (u : Int) 7) HO.out (k := 0) (by simp [beN_length]) (by omega)
     have HF : Hid (OwnB wp (wr.setCell ⟨wp.heap.size, 0, none⟩ (.int .u8 ((q + 252 : Nat) : Int))) (.slice (some ⟨wp.heap.size, 0, none⟩) 7 7) (vintU u)) := Lib.hid (by
      have e : vintU u = (bt ((q + 252 : Nat) : Int)) :: beN u (7 - 1) := by
       unfold vintU
       rw [HV.out, if_neg (by decide), show u / 256 ^ (7 - 1) = q from hq.symm]
       rfl
      rw [← bt_u, show (q + 252) % 256 = q + 252 by omega] at e
      rw [e]
      exact hO2)
     clear hx hO2 hq hqs
     go_wp2_with fail
     go_ret
     exact ⟨_, rfl, HF.out⟩
    ·obtain ⟨q, hq⟩ : ∃ q, q = u / 256 ^ 7 := ⟨_, rfl⟩
     have hqs : q < 1 := by have := HU.out; rw [hq]; omega
     have hx : (beN (u : Int) 8)[0]? = some (UInt8.ofNat q) := by
      show some (bt ((u : Int) / 256 ^ 7)) = _
      rw [show (u : Int) / 256 ^ 7 = (q : Int) by rw [hq]; simp, ← bt_u, show q % 256 = q by omega]
     obtain ⟨c0, f0⟩ := own_get (own_len HO.out.1 (by simp [beN_length])) (byteV_some hx)
     rw [show (((UInt8.ofNat q).toNat : Nat) : Int) = (q : Int) by rw [UInt8.toNat_ofNat']; omega] at c0
     have hor : bits .or .u8 (q : Int) 254 = ((q + 254 : Nat) : Int) := or_mask8 q hqs
     have hnot : bits BinOp.xor IntKind.u8 (if IntKind.u8.signed = true then -1 else IntKind.u8.max) 1 = 254 := by decide
     have hO2 := OwnB.set (x := q + 254) (l := beN (u : Int) 8) HO.out (k := 0) (by simp [beN_length]) (by omega)
     have HF : Hid (OwnB wp (wr.setCell ⟨wp.heap.size, 0, none⟩ (.int .u8 ((q + 254 : Nat) : Int))) (.slice (some ⟨wp.heap.size, 0, none⟩) 8 8) (vintU u)) := Lib.hid (by
      have e : vintU u = (bt ((q + 254 : Nat) : Int)) :: beN u (8 - 1) := by
       unfold vintU
       rw [HV.out, if_neg (by decide), show u / 256 ^ (8 - 1) = q from hq.symm]
       rfl
      rw [← bt_u, show (q + 254) % 256 = q + 254 by omega] at e
      rw [e]
      exact hO2)
     clear hx hO2 hq hqs
     go_wp2_with fail
     go_ret
     exact ⟨_, rfl, HF.out⟩
    ·obtain ⟨q, hq⟩ : ∃ q, q = u / 256 ^ 8 := ⟨_, rfl⟩
     have hqs : q < 1 := by rw [hq]; omega
     have hx : (beN (u : Int) 9)[0]? = some (UInt8.ofNat q) := by
      show some (bt ((u : Int) / 256 ^ 8)) = _
      rw [show (u : Int) / 256 ^ 8 = (q : Int) by rw [hq]; simp, ← bt_u, show q % 256 = q by omega]
     obtain ⟨c0, f0⟩ := own_get (own_len HO.out.1 (by simp [beN_length])) (byteV_some hx)
     rw [show (((UInt8.ofNat q).toNat : Nat) : Int) = (q : Int) by rw [UInt8.toNat_ofNat']; omega] at c0
     have hor : bits .or .u8 (q : Int) 255 = ((q + 255 : Nat) : Int) := or_mask9 q hqs
     have hnot : bits BinOp.xor IntKind.u8 (if IntKind.u8.signed = true then -1 else IntKind.u8.max) 0 = 255 := by decide
     have hO2 := OwnB.set (x := q + 255) (l := beN (u : Int) 9) HO.out (k := 0) (by simp [beN_length]) (by omega)
     have HF : Hid (OwnB wp (wr.setCell ⟨wp.heap.size, 0, none⟩ (.int .u8 ((q + 255 : Nat) : Int))) (.slice (some ⟨wp.heap.size, 0, none⟩) 9 9) (vintU u)) := Lib.hid (by
      have e : vintU u = (UInt8.ofNat (q + 255)) :: beN u 8 := by
       unfold vintU
       rw [HV.out, if_pos rfl, show q = 0 by omega]
       rfl
      rw [e]
      exact hO2)
     clear hx hO2 hq hqs
     go_wp2_with fail
     go_ret
     exact ⟨_, rfl, HF.out⟩
end Go.Proofs.YtammjbmfiakbnaaGreatDoor
namespace Go.Proofs.YtammjbmfiakbnaaGreatDoor
open Go.RowKit
theorem vint_len2 (n : Int) : 1 ≤ (vintB n).length ∧ (vintB n).length ≤ 9 := by rw [vintB_length]; exact vsz_range _
theorem ownB_out {w w' : World} {g c : Nat} {l : List UInt8} (h : w'.ownsRow w.heap.size 5 1 (.slice (some ⟨g, 0, none⟩) l.length c) l.length (l.map byteV)) : Out l (.slice (some ⟨g, 0, none⟩) l.length c) w' := by
 obtain ⟨hl, h⟩ := h
 rcases h with ⟨h, _⟩ | ⟨g', cap, cur, hv, hb, hg, hc, hm, hs, ht⟩
 ·cases h
 ·injection hv with hv _ hv3
  injection hv with hv
  injection hv with hv
  subst hv
  subst hv3
  refine ⟨g, 0, c, cur, 5, (0, 0), rfl, hc, hg, by decide, by decide, fun j u hu => ?_⟩
  rw [← ht] at hu
  rw [List.getElem?_take] at hu
  rw [Nat.zero_add]
  split at hu
  ·simpa using hu
  ·cases hu
set_option maxRecDepth 100000 in
set_option maxHeartbeats 2000000 in
theorem encVints_any (mo da na : Int) (h1 : -2147483648 ≤ mo ∧ mo ≤ 2147483647) (h2 : -2147483648 ≤ da ∧ da ≤ 2147483647) (h3 : -9223372036854775808 ≤ na ∧ na ≤ 9223372036854775807) (w : World) :
  Calls Tryz.prog 104 #[.int .i32 mo, .int .i32 da, .int .i64 na] w fun e w' => ∃ r, e = .returned r ∧ (Out (vintB mo ++ vintB da ++ vintB na) r w' ∧ New w r) ∧ Ext w w' := by
 have c1 := Lib.hid (fun W => encVint_any mo (by omega) W)
 have c2 := Lib.hid (fun W => encVint_any da (by omega) W)
 have c3 := Lib.hid (fun W => encVint_any na (by omega) W)
 obtain ⟨l1a, l1b⟩ := vint_len2 mo
 obtain ⟨l2a, l2b⟩ := vint_len2 da
 obtain ⟨l3a, l3b⟩ := vint_len2 na
 generalize vintB mo = v1 at *
 generalize vintB da = v2 at *
 generalize vintB na = v3 at *
 obtain ⟨i0, hi0, hz0, hz1, hz2⟩ := info_parts info5
 obtain ⟨h1a, h1b⟩ := h1
 obtain ⟨h2a, h2b⟩ := h2
 clear h3
 have hone : ∀ l : List UInt8, ∀ v ∈ l.map byteV, v.oneCell' = true := by intro l u hu; simp only [List.mem_map] at hu; obtain ⟨y, _, rfl⟩ := hu; rfl
 have Hone := Lib.hid hone
 have hnews : ∀ (g c b0 : Nat) (l : List UInt8) (W : World), W.ownsRow b0 5 1 (.slice (some ⟨g, 0, none⟩) l.length c) l.length (l.map byteV) → ∀ j u, (l.map byteV)[j]? = some u → W.cell? ((⟨g, 0, none⟩ : Addr).add j) = some u := fun g c b0 l W ho j u hu => by
  have hadd : (⟨g, 0, none⟩ : Addr).add j = ⟨g, j, none⟩ := by unfold Addr.add; split <;> simp_all
  rw [hadd]
  exact (own_get ho hu).1
 have Hnews := Lib.hid hnews
 clear hone hnews
 go_enter Tryz.func104, Tryz.ntmps104
 go_wp2_with fail
 refine (c1.out w).mono ?_
 rintro e w1 ⟨r1, rfl, o1, x1⟩
 go_wp2_with fail
 refine (c2.out w1).mono ?_
 rintro e w2 ⟨r2, rfl, o2, x2⟩
 obtain ⟨g1, k1, rfl, hg1⟩ := own_form1 o1 (by omega)
 obtain ⟨g2, k2, rfl, hg2⟩ := own_form1 o2 (by omega)
 have O1 := Lib.hid (ownsRow_ext o1 x2)
 have O2 := Lib.hid o2
 have X2 := Lib.hid (x1.trans x2)
 have hs2 := X2.out.size
 clear o1 o2 x1 x2
 go_wp2_with (at_builtin; refine wpList_append_lies _ rfl _ _ _ rfl w.heap.size 5 i0 _ 1 1 Tryz.underlying27 hi0 hz0 hz1 hz2 rfl (by omega) (.slice (some ⟨g1, 0, none⟩) v1.length k1) v1.length (v1.map byteV) rfl O1.out ⟨g2, 0, none⟩ v2.length k2 (v2.map byteV) rfl (by simp) (Hnews.out g2 k2 _ v2 _ O2.out) (Hone.out v2) (by omega) (by unfold maxLen; omega) (by omega) hs2 w2.heap.size rfl ?_; intro gg cap1 w3 hown3 hgrow hat hltg)
 have X3 := Lib.hid (X2.out.grown hgrow (fun k hk => by have hk : some g1 = some k := hk; injection hk with hk; omega))
 have O3 := Lib.hid hown3
 clear hown3 hgrow hat
 refine (c3.out w3).mono ?_
 rintro e w4 ⟨r3, rfl, o4, x4⟩
 obtain ⟨g4, k4, rfl, hg4⟩ := own_form1 o4 (by omega)
 have O4 := Lib.hid o4
 have O5 := Lib.hid (ownsRow_ext O3.out x4)
 have X4 := Lib.hid (X3.out.trans x4)
 have hs4 := X4.out.size
 clear o4 x4
 go_wp2_with (at_builtin; refine wpList_append_lies _ rfl _ _ _ rfl w.heap.size 5 i0 _ 1 1 Tryz.underlying27 hi0 hz0 hz1 hz2 rfl (by omega) (.slice (some ⟨gg, 0, none⟩) (v1.length + v2.length) cap1) (v1.length + v2.length) (v1.map byteV ++ v2.map byteV) rfl O5.out ⟨g4, 0, none⟩ v3.length k4 (v3.map byteV) rfl (by simp) (Hnews.out g4 k4 _ v3 _ O4.out) (Hone.out v3) (by omega) (by unfold maxLen; omega) (by omega) hs4 w4.heap.size rfl ?_; intro gg2 cap2 w5 hown5 hgrow5 hat5 hltg5)
 have hgg : w.heap.size ≤ gg := (own_bounds O5.out).1
 have X5 := Lib.hid (X4.out.grown hgrow5 (fun k hk => by have hk : some gg = some k := hk; injection hk with hk; omega))
 have O6 : Hid (Out (v1 ++ v2 ++ v3) (.slice (some ⟨gg2, 0, none⟩) (v1.length + v2.length + v3.length) cap2) w5) := Lib.hid (by
  have e : v1.length + v2.length + v3.length = (v1 ++ v2 ++ v3).length := by simp; omega
  have e2 : v1.map byteV ++ v2.map byteV ++ v3.map byteV = (v1 ++ v2 ++ v3).map byteV := by simp
  rw [e, e2] at hown5
  rw [e]
  exact ownB_out hown5)
 have hg5 := (own_bounds hown5).1
 clear hown5 hgrow5 hat5
 go_wp2_with fail
 go_ret
 exact ⟨_, rfl, ⟨O6.out, ⟨_, _, _, _, rfl, hg5⟩⟩, X5.out⟩
set_option maxRecDepth 100000 in
theorem mar_dur (mo da na : Int) (h1 : -2147483648 ≤ mo ∧ mo ≤ 2147483647) (h2 : -2147483648 ≤ da ∧ da ≤ 2147483647) (h3 : -9223372036854775808 ≤ na ∧ na ≤ 9223372036854775807) (I : Value) (w : World) (X : Nat → Prop) (hX : ∀ b, X b → b < w.heap.size) :
  Calls Tryz.prog 71 #[I, .iface 125 (.agg #[.int .i32 mo, .int .i32 da, .int .i64 na])] w (MarQ X (vintB mo ++ vintB da ++ vintB na) w) := by
 have HXX := Lib.hid hX
 clear hX
 have hc := fun W => encVints_any mo da na h1 h2 h3 W
 have Hc := Lib.hid hc
 clear hc h1 h2 h3
 go_enter Tryz.func71, Tryz.ntmps71
 go_wp2_with fail
 refine (Hc.out _).mono ?_
 rintro e w1 ⟨r, rfl, hr, hx⟩
 have HO := Lib.hid hr
 have HX : Hid (Ext w w1) := Lib.hid (Ext.trans (by first | exact (Ext.refl w).alloc _ | exact ((Ext.refl w).alloc _).alloc _) hx)
 clear hr hx
 go_wp2_with fail
 go_ret2
 exact ⟨r, rfl, ⟨HO.out.1, HO.out.2.far HXX.out (by first | exact Nat.le_refl _ | simp)⟩, HX.out⟩
end Go.Proofs.YtammjbmfiakbnaaGreatDoor
namespace Go.Proofs.YtammjbmfiakbnaaGreatDoor
open Go.RowKit
/-- A block that begins with these two cells. -/
def BlkI (w : World) (B : Nat) (a b : Value) : Prop := ∃ t cs, Blk w B t cs ∧ cs[0]? = some a ∧ cs[1]? = some b
section
variable {w w1 : World} {B : Nat} {a b : Value}
theorem BlkI.c2 (h : BlkI w B a b) : w.cell? ⟨B, 0, none⟩ = some a ∧ w.cell? ⟨B, 1, none⟩ = some b := by
 obtain ⟨t, cs, h, h0, h1⟩ := h
 exact ⟨(h.cell 0).trans h0, (h.cell 1).trans h1⟩
theorem BlkI.lt (h : BlkI w B a b) : B < w.heap.size := by
 obtain ⟨t, cs, h, _⟩ := h
 exact h.lt
theorem BlkI.ext (h : BlkI w B a b) (he : Ext w w1) : BlkI w1 B a b := by
 obtain ⟨t, cs, h, h'⟩ := h
 exact ⟨t, cs, h.ext he, h'⟩
theorem BlkI.alloc (h : BlkI w B a b) (o : Obj) : BlkI (w.alloc o) B a b := h.ext ((Ext.refl w).alloc o)
theorem BlkI.of {t : TypeId} (h : Blk w B t #[a, b]) : BlkI w B a b := ⟨t, _, h, rfl, rfl⟩
end
/-- A big.Int's cells in memory: its sign, its words. -/
structure IntIn (w : World) (B : Nat) (g : Bool) (z : Value) (n : Int) : Prop where
 blk : BlkI w B (.bool g) z
 big : BigR (fun _ => False) w n g z
theorem IntIn.ext {w w' : World} {B : Nat} {g : Bool} {z : Value} {n : Int} (h : IntIn w B g z n) (he : Ext w w') : IntIn w' B g z n := ⟨h.blk.ext he, h.big.trans (Trans.onx (Onx.of_ext he _))⟩
theorem wVal_pos {l : List Nat} (h : l ≠ []) (hn : Nrm l) : 0 < wVal l := by
 rcases Nat.eq_zero_or_pos (wVal l) with h0 | h0
 ·exfalso
  have key : ∀ l : List Nat, wVal l = 0 → ∀ a ∈ l, a = 0 := by
   intro l
   induction l with
   |nil => intro _ a ha; cases ha
   |cons b r ih =>
    intro h a ha
    simp only [wVal] at h
    rcases List.mem_cons.1 ha with rfl | ha
    ·omega
    ·exact ih (by omega) a ha
  obtain ⟨a, ha⟩ : ∃ a, l.getLast? = some a := by
   cases hl : l.getLast? with
   |none => rw [List.getLast?_eq_none_iff] at hl; exact absurd hl h
   |some a => exact ⟨a, rfl⟩
  have := key l h0 a (List.mem_of_getLast? ha)
  subst this
  exact hn ha
 ·exact h0
set_option maxRecDepth 100000 in
theorem sign_any (B : Nat) (g : Bool) (z : Value) (n : Int) (w : World) (h : IntIn w B g z n) :
  Calls Tryz.prog 117 #[.pointer (some ⟨B, 0, none⟩)] w fun e w' => e = .returned (.int .i64 n.sign) ∧ w' = w := by
 obtain ⟨hb, A, c, l, rfl, hlc, -, -, -, hnr, hl, hn, hg⟩ := h
 obtain ⟨c0, c1⟩ := hb.c2
 clear hb
 rcases Nat.eq_zero_or_pos l.length with h0 | h0
 ·obtain rfl : l = [] := List.length_eq_zero_iff.1 h0
  have hgf : g = false := by cases g with
   |true => exact absurd rfl (hg rfl)
   |false => rfl
  subst hgf
  have hn0 : n = 0 := by rw [hn]; rfl
  subst hn0
  clear hn hg hnr
  go_enter Tryz.func117, Tryz.ntmps117
  go_wp2_with fail
  go_ret
  exact ⟨rfl, rfl⟩
 ·have hp := wVal_pos (by rintro rfl; simp at h0) hnr
  have hll : ((l.length : Int) == 0) = false := beq_eq_false_iff_ne.2 (by omega)
  cases g with
  |true =>
   have hs : n.sign = -1 := by rw [hn]; exact Int.sign_eq_neg_one_of_neg (by simp; omega)
   rw [hs]
   clear hn hg hnr hp hs
   generalize l.length = ll at *
   clear h0
   go_enter Tryz.func117, Tryz.ntmps117
   go_wp2_with fail
   go_ret
   exact ⟨rfl, rfl⟩
  |false =>
   have hs : n.sign = 1 := by rw [hn]; exact Int.sign_eq_one_of_pos (by simp; omega)
   rw [hs]
   clear hn hg hnr hp hs
   generalize l.length = ll at *
   clear h0
   go_enter Tryz.func117, Tryz.ntmps117
   go_wp2_with fail
   go_ret
   exact ⟨rfl, rfl⟩
end Go.Proofs.YtammjbmfiakbnaaGreatDoor
namespace Go.Proofs.YtammjbmfiakbnaaGreatDoor
open Go.RowKit
set_option maxRecDepth 100000 in
set_option maxHeartbeats 4000000 in
theorem natBytes_any (A : Option Addr) (c : Nat) (l : List Nat) (hl : l.length ≤ 100) (hw : ∀ x ∈ l, x < 18446744073709551616) (b0 g : Nat) (b : List UInt8) (hb : b.length = 8 * l.length) (w : World)
  (hz : ∀ j a, l[j]? = some a → ∃ zb zo, A = some ⟨zb, zo, none⟩ ∧ zb ≠ g ∧ w.cell? ⟨zb, zo + j, none⟩ = some (wd a)) (ho : w.ownsRow b0 5 1 (.slice (some ⟨g, 0, none⟩) b.length b.length) b.length (b.map byteV)) :
  Calls Tryz.prog 142 #[.slice A l.length c, .slice (some ⟨g, 0, none⟩) b.length b.length] w fun e w' => ∃ (b' : List UInt8) (i : Nat), e = .returned (.int .i64 i) ∧ b'.length = b.length ∧ beVal b' = wVal l ∧ w'.ownsRow b0 5 1 (.slice (some ⟨g, 0, none⟩) b.length b.length) b.length (b'.map byteV) ∧ FrameG w w' g ∧
   i ≤ b.length ∧ (∀ j x, j < i → b'[j]? = some x → x.toNat = 0) ∧ (∀ x, b'[i]? = some x → x.toNat ≠ 0) := by
 have HO := Lib.hid ho
 have HZ := Lib.hid hz
 have HW := Lib.hid hw
 have HB := Lib.hid hb
 have hN : b.length ≤ 800 := by omega
 clear ho hz hw hb
 generalize hNN : b.length = N at *
 have Hbl := Lib.hid hNN
 clear hNN
 go_enter Tryz.func142, Tryz.ntmps142
 go_wp2_with fail
 go_loopw [4, 12] (fun iv kv wr => ∃ (k : Nat) (b' : List UInt8), k ≤ l.length ∧ kv = .int .i64 k ∧ iv = .int .i64 (N - 8 * k : Nat) ∧ b'.length = N ∧ BytL (wVal l) (8 * k) b' ∧ wr.ownsRow b0 5 1 (.slice (some ⟨g, 0, none⟩) N N) N (b'.map byteV) ∧ FrameG w wr g) (fun _ kv _ => l.length - (intOf kv).toNat)
 case atStart => exact ⟨0, b, by omega, rfl, rfl, Hbl.out, BytL.start _ _, HO.out, FrameG.refl _ _⟩
 case round =>
  obtain ⟨k, b1, hk, rfl, rfl, hb1, hB, ho1, hf1⟩ := hrel
  have HBy := Lib.hid hB
  have HO1 := Lib.hid ho1
  have HF1 := Lib.hid hf1
  have Hb1 := Lib.hid hb1
  clear hB ho1 hf1 hb1
  by_cases hlt : (k : Int) < l.length
  ·have hk' : k < l.length := by omega
   have hka : l[k]? = some l[k] := List.getElem?_eq_getElem hk'
   obtain ⟨zb, zo, hA, hzg, hcz⟩ := HZ.out k _ hka
   have ha := HW.out _ (List.getElem_mem hk')
   have Hby := Lib.hid (fun j hj => wVal_byte l k j _ hka HW.out hj)
   generalize l[k] = a at hka hcz ha Hby
   subst hA
   have hcr : wr.cell? ⟨zb, zo + k, none⟩ = some (wd a) := (HF1.out.cell hzg).trans hcz
   clear hcz hka
   have HCr := Lib.hid hcr
   obtain ⟨wp, hwp⟩ : ∃ x, x = wr := ⟨wr, rfl⟩
   subst hwp
   go_wp2_with fail
   clear hcr
   go_loopw [4, 6, 7] (fun iv dv jv wr => ∃ (j : Nat) (b' : List UInt8), j ≤ 8 ∧ jv = .int .i64 j ∧ dv = .int .u64 (a / 256 ^ j : Nat) ∧ iv = .int .i64 (N - (8 * k + j) : Nat) ∧ b'.length = N ∧ BytL (wVal l) (8 * k + j) b' ∧ wr.ownsRow b0 5 1 (.slice (some ⟨g, 0, none⟩) N N) N (b'.map byteV) ∧ FrameG w wr g) (fun _ _ jv _ => 8 - (intOf jv).toNat)
   case atStart => exact ⟨0, b1, by omega, rfl, by simp, rfl, Hb1.out, HBy.out, HO1.out, HF1.out⟩
   case round =>
    obtain ⟨j, b2, hj, rfl, rfl, rfl, hb2, hB2, ho2, hf2⟩ := hrel
    have HBy2 := Lib.hid hB2
    have HO2 := Lib.hid ho2
    have HF2 := Lib.hid hf2
    have Hb2 := Lib.hid hb2
    clear hB2 ho2 hf2 hb2
    have HN := Lib.hid HB.out
    by_cases hjl : (j : Int) < 8
    ·have hj8 : j < 8 := by omega
     have hNk : 8 * k + j < N := by have := HB.out; omega
     obtain ⟨d, hd⟩ : ∃ d, a / 256 ^ j = d := ⟨_, rfl⟩
     have hdl : d < 18446744073709551616 := by rw [← hd]; exact Nat.lt_of_le_of_lt (Nat.div_le_self _ _) ha
     have hd2 : a / 256 ^ (j + 1) = d / 256 := by rw [Nat.pow_succ, ← Nat.div_div_eq_div_mul, hd]
     have hby := Hby.out j hj8
     rw [hd] at hby ⊢
     obtain ⟨i, hi⟩ : ∃ i, N - (8 * k + j) = i + 1 := ⟨N - (8 * k + j) - 1, by omega⟩
     have hiN : i < N := by omega
     have hi2 : N - (8 * k + j + 1) = i := by omega
     rw [hi]
     have hx : (UInt8.ofNat (d % 256)).toNat = wVal l / 256 ^ (8 * k + j) % 256 := by rw [UInt8.toNat_ofNat', hby]; omega
     have hst := HBy2.out.step (by rw [Hb2.out]; exact hNk) (UInt8.ofNat (d % 256)) hx
     rw [Hb2.out, hi2] at hst
     have hcell := own_get HO2.out (byteV_at (by rw [Hb2.out]; exact hiN))
     obtain ⟨hc1, hc2⟩ := hcell
     have ho3 := own_set HO2.out hiN (.int .u8 ((d % 256 : Nat) : Int))
     rw [map_set' _ _ _ (by omega)] at ho3
     have hsh : ∀ W : World, (Op.shift .shr .u64 (d : Int) .u64 8).run Tryz.prog W = .ok (.int .u64 ((d / 256 : Nat) : Int)) W := fun W => by
      simp [Op.shift, IntKind.bits, Int.fdiv_eq_ediv_of_nonneg]
     have HST := Lib.hid hst
     have HO3 := Lib.hid ho3
     have Hd2 := Lib.hid hd2
     have Hi2 := Lib.hid hi2
     have hnn : ((i + 1 : Nat) : Int) = (i : Int) + 1 := by omega
     rw [hnn]
     clear hst ho3 hd2 hi2 hby hx hi hd hnn
     go_wp2_with fail
     go_roundw
     case rel =>
      have e1 : N - (8 * k + (j + 1)) = i := Hi2.out
      refine ⟨j + 1, b2.set i (UInt8.ofNat (d % 256)), by omega, by go_num, by rw [Hd2.out]; go_num, by rw [e1], by rw [List.length_set]; exact Hb2.out, HST.out, ?_, HF2.out.set _⟩
      exact HO3.out
     case measure => simp [intOf]; omega
    ·obtain rfl : j = 8 := by omega
     go_wp2_with fail
     go_roundw
     case rel => exact ⟨k + 1, b2, by omega, by go_num, by rw [show 8 * (k + 1) = 8 * k + 8 by omega], Hb2.out, HBy2.out, HO2.out, HF2.out⟩
     case measure => simp [intOf]; omega
  ·obtain rfl : k = l.length := by omega
   have hB0 : N - 8 * l.length = 0 := by have := HB.out; omega
   rw [hB0]
   have hval : beVal b1 = wVal l := by
    have h1 := HBy.out
    rw [← HB.out, ← Hb1.out] at h1
    refine h1.last ?_
    rw [Hb1.out, HB.out]
    exact wVal_lt l HW.out
   have Hval := Lib.hid hval
   clear hval hB0
   obtain ⟨wp, hwp⟩ : ∃ x, x = wr := ⟨wr, rfl⟩
   subst hwp
   go_wp2_with fail
   go_loopw [4] (fun iv wr => ∃ i : Nat, i ≤ N ∧ iv = .int .i64 i ∧ (∀ j x, j < i → b1[j]? = some x → x.toNat = 0) ∧ wr = wp) (fun iv _ => N - (intOf iv).toNat)
   case atStart => exact ⟨0, by omega, rfl, fun j _ hj => by omega, by first | trivial | rfl⟩
   case round =>
    obtain ⟨i, hi, rfl, hzr, hwr⟩ := hrel
    have hwr : wp = wr := hwr.symm
    subst hwr
    have Hzr := Lib.hid hzr
    clear hzr
    by_cases hlt2 : (i : Int) < N
    ·have hiN : i < N := by omega
     have hib : i < b1.length := by rw [Hb1.out]; exact hiN
     obtain ⟨hc1, hc2⟩ := own_get HO1.out (byteV_at hib)
     by_cases h0 : b1[i].toNat = 0
     ·rw [h0] at hc1
      have hc1 : wp.cell? ⟨g, i, none⟩ = some (.int .u8 0) := hc1
      have Hz2 : Hid (∀ j x, j < i + 1 → b1[j]? = some x → x.toNat = 0) := Lib.hid fun j x hj hx => by
       by_cases hji : j = i
       ·subst hji
        rw [List.getElem?_eq_getElem hib] at hx
        injection hx with hx
        rw [← hx]
        exact h0
       ·exact Hzr.out j x (by omega) hx
      clear h0 hc2
      go_wp2_with fail
      go_roundw
      case rel => exact ⟨i + 1, by omega, by go_num, Hz2.out, by first | trivial | rfl⟩
      case measure => simp [intOf]; omega
     ·have h0' : ((b1[i].toNat : Int) == 0) = false := beq_eq_false_iff_ne.2 (by omega)
      have Hn0 : Hid (∀ x, b1[i]? = some x → x.toNat ≠ 0) := Lib.hid fun x hx => by
       rw [List.getElem?_eq_getElem hib] at hx
       injection hx with hx
       rw [← hx]
       exact h0
      generalize b1[i].toNat = x at hc1 h0 h0'
      clear h0 hc2
      go_wp2_with fail
      go_ret
      exact ⟨b1, i, rfl, Hb1.out, Hval.out, HO1.out, HF1.out, hi, Hzr.out, Hn0.out⟩
    ·obtain rfl : i = N := by omega
     go_wp2_with fail
     go_ret
     exact ⟨b1, i, rfl, Hb1.out, Hval.out, HO1.out, HF1.out, hi, Hzr.out, fun x hx => by rw [List.getElem?_eq_none (by rw [Hb1.out]; exact Nat.le_refl _)] at hx; cases hx⟩
end Go.Proofs.YtammjbmfiakbnaaGreatDoor
namespace Go.Proofs.YtammjbmfiakbnaaGreatDoor
open Go.RowKit
set_option maxRecDepth 100000 in
theorem intBytes_any (B : Nat) (s : Bool) (z : Value) (n : Int) (hn0 : n ≠ 0) (w : World) (h : IntIn w B s z n) :
  Calls Tryz.prog 118 #[.pointer (some ⟨B, 0, none⟩)] w fun e w' => ∃ (a : UInt8) (b : List UInt8) (g i c : Nat), e = .returned (.slice (some ⟨g, i, none⟩) (b.length + 1) c) ∧ b.length + 1 ≤ c ∧ c ≤ 800 ∧ a.toNat ≠ 0 ∧ (beVal (a :: b) : Int) = n.natAbs ∧
   w.heap.size ≤ g ∧ (∃ cs : List Value, w'.heap[g]? = some (.cells cs.toArray 5 (0, 0)) ∧ ∀ j u, ((a :: b).map byteV)[j]? = some u → cs[i + j]? = some u) ∧ Ext w w' := by
 obtain ⟨hb, A, c, l, rfl, hlc, hcm, hseg, hw, hnr, hl, hn, hg⟩ := h
 obtain ⟨c0, c1⟩ := hb.c2
 have hBl := hb.lt
 have hlne : l ≠ [] := by
  rintro rfl
  apply hn0
  rw [hn]
  cases s <;> rfl
 obtain ⟨zb, zo, rfl, hzb, -, hcells⟩ := hseg (by intro e; rw [List.map_eq_nil_iff] at e; exact hlne e)
 have h0 : 0 < l.length := List.length_pos_iff.2 hlne
 obtain ⟨N, hN⟩ : ∃ N, N = 8 * l.length := ⟨_, rfl⟩
 have hmk : ∀ W : World, (Instr.makeSlice 27 (.int .i64 ((l.length : Int) * 8)) (.int .i64 ((l.length : Int) * 8))).run Tryz.prog W = .ok (.slice (some ⟨W.heap.size, 0, none⟩) N N) (W.alloc (.cells (madeCells #[.int .u8 0] N) 5)) := fun W => by
  have := mk_bytes N (by omega) W
  rwa [show (N : Int) = (l.length : Int) * 8 by omega] at this
 have hlr : (List.replicate N (0 : UInt8)).length = N := by simp
 have hcall := natBytes_any (some ⟨zb, zo, none⟩) c l (by omega) hw w.heap.size w.heap.size (List.replicate N 0) (by rw [hlr, hN]) (w.alloc (.cells (madeCells #[.int .u8 0] N) 5))
  (fun j a hj => ⟨zb, zo, rfl, by omega, ((Ext.refl w).alloc _).cellS (hcells j _ (wd_at hj))⟩) (by have := (mk_own (Ext.refl w) N (by omega)).1; rw [hlr] at this ⊢; exact this)
 rw [hlr] at hcall
 have Hcall := Lib.hid hcall
 have HBl := Lib.hid (hb.alloc (.cells (madeCells #[.int .u8 0] N) 5))
 have hBg : B ≠ w.heap.size := by omega
 have hval : n.natAbs = wVal l := by rw [hn]; cases s <;> simp
 have Hval := Lib.hid hval
 have hpos := wVal_pos hlne hnr
 have HN := Lib.hid hN
 have hN8 : N ≤ 328 := by omega
 have hl1 : (l.length : Int) * 8 ≤ 328 := by omega
 obtain ⟨d0, d1⟩ := HBl.out.c2
 clear hcall hb hcells hw hnr hn hg hlne hn0 hval hcm hseg hN hlr
 go_enter Tryz.func118, Tryz.ntmps118
 go_wp2_with fail
 refine Hcall.out.mono ?_
 rintro e w1 ⟨b', i, rfl, hb1, hv, ho, hf, hi, hz, hnz⟩
 have hE1 := hf.ext ((Ext.refl w).alloc _) (Nat.le_refl _)
 have hiN : i < N := by
  rcases Nat.lt_or_ge i N with h | h
  ·exact h
  ·exfalso
   have key : ∀ (m : List UInt8), (∀ x ∈ m, x.toNat = 0) → beVal m = 0 := by
    intro m
    induction m with
    |nil => intro _; rfl
    |cons a r ih => intro h; simp only [beVal]; rw [h a (by simp), ih (fun x hx => h x (by simp [hx]))]; simp
   have : beVal b' = 0 := key b' (fun x hx => by
    obtain ⟨j, hj⟩ := List.mem_iff_getElem?.1 hx
    exact hz j x (by have := (List.getElem?_eq_some_iff.1 hj).1; omega) hj)
   omega
 have hib : i < b'.length := by omega
 have hsp : b'.drop i = b'[i] :: b'.drop (i + 1) := List.drop_eq_getElem_cons hib
 have hbe : ∀ (k : Nat) (m : List UInt8), (∀ j x, j < k → m[j]? = some x → x.toNat = 0) → beVal (m.drop k) = beVal m := by
  intro k
  induction k with
  |zero => intro m _; rfl
  |succ k ih =>
   intro m hm
   cases m with
   |nil => rfl
   |cons a r =>
    rw [List.drop_succ_cons, ih r (fun j x hj hx => hm (j + 1) x (by omega) (by simpa using hx))]
    simp [beVal, hm 0 a (by omega) rfl]
 have hfin : ∃ (a : UInt8) (t : List UInt8), N - i = t.length + 1 ∧ a.toNat ≠ 0 ∧ (beVal (a :: t) : Int) = n.natAbs ∧ (∃ cs : List Value, w1.heap[w.heap.size]? = some (.cells cs.toArray 5 (0, 0)) ∧ ∀ j u, ((a :: t).map byteV)[j]? = some u → cs[i + j]? = some u) := by
  refine ⟨b'[i], b'.drop (i + 1), by simp; omega, hnz _ (List.getElem?_eq_getElem hib), ?_, ?_⟩
  ·rw [← hsp, hbe i b' hz, hv, ← Hval.out]
  ·obtain ⟨-, h⟩ := ho
   rcases h with ⟨hv, _⟩ | ⟨g', cap, cur, hv, _, hg', _, _, _, ht⟩
   ·cases hv
   ·injection hv with hv
    injection hv with hv
    injection hv with hv
    subst hv
    refine ⟨cur.toList, by simpa using hg', fun j u hu => ?_⟩
    rw [← hsp, List.map_drop, ← ht, List.getElem?_drop, List.getElem?_take] at hu
    split at hu
    ·exact hu
    ·cases hu
 obtain ⟨a, t, h1, h2, h3, h4⟩ := hfin
 have H3 := Lib.hid h3
 have H4 := Lib.hid h4
 have HE := Lib.hid hE1
 clear hbe hsp hz hnz hv ho hf h3 h4 hE1 hb1 hib
 go_wp2_with fail
 go_ret
 refine ⟨a, t, w.heap.size, i, N - i, ?_, by omega, by omega, h2, H3.out, Nat.le_refl _, H4.out, HE.out⟩
 rw [← h1]
 rfl
end Go.Proofs.YtammjbmfiakbnaaGreatDoor
namespace Go.Proofs.YtammjbmfiakbnaaGreatDoor
open Go.RowKit
set_option maxRecDepth 100000 in
theorem newInt1_any (w : World) : Calls Tryz.prog 148 #[.int .i64 1] w fun e w' => e = .returned (.pointer (some ⟨w.heap.size + 1, 0, none⟩)) ∧ Blk w' (w.heap.size + 1) 114 #[.bool false, .slice (some ⟨w.heap.size, 0, none⟩) 1 1] ∧ Blk w' w.heap.size 291 #[wd 1] ∧ Ext w w' := by
 go_enter Tryz.func148, Tryz.ntmps148
 go_wp2_with fail
 go_ret
 refine ⟨rfl, Blk.new' _ _ 114 _ (by simp), (Blk.new w 291 _).alloc _, ((Ext.refl w).alloc _).alloc _⟩
set_option maxRecDepth 100000 in
theorem bigOne_any (w : World) : Calls Tryz.prog 122 #[] w fun e w' => e = .returned (.pointer (some ⟨w.heap.size + 1, 0, none⟩)) ∧ Blk w' (w.heap.size + 1) 114 #[.bool false, .slice (some ⟨w.heap.size, 0, none⟩) 1 1] ∧ Blk w' w.heap.size 291 #[wd 1] ∧ Ext w w' := by
 go_enter Tryz.func122, Tryz.ntmps122
 go_wp2_with fail
 refine (newInt1_any w).mono ?_
 rintro e w1 ⟨rfl, h1, h2, h3⟩
 have H1 := Lib.hid h1
 have H2 := Lib.hid h2
 clear h1 h2
 go_wp2_with fail
 go_ret
 exact ⟨rfl, H1.out, H2.out, h3⟩
end Go.Proofs.YtammjbmfiakbnaaGreatDoor
namespace Go.Proofs.YtammjbmfiakbnaaGreatDoor
open Go.RowKit
theorem or_u64 (a b : Nat) (ha : a < 18446744073709551616) (hb : b < 18446744073709551616) : bits .or .u64 (a : Int) (b : Int) = ((a ||| b : Nat) : Int) := by
 have hx : a ||| b < 2 ^ 64 := Nat.or_lt_two_pow (by omega) (by omega)
 have h1 : (BitVec.ofInt 64 (a : Int)).toNat = a := by
  rw [BitVec.ofInt_natCast, BitVec.toNat_ofNat]; exact Nat.mod_eq_of_lt (by omega)
 have h2 : (BitVec.ofInt 64 (b : Int)).toNat = b := by
  rw [BitVec.ofInt_natCast, BitVec.toNat_ofNat]; exact Nat.mod_eq_of_lt (by omega)
 show IntKind.u64.wrap ((BitVec.ofInt 64 (a : Int) ||| BitVec.ofInt 64 (b : Int)).toNat : Int) = _
 rw [BitVec.toNat_or, h1, h2, IntKind.wrap_u64]
 omega
/-- A number with as many bits: smeared. -/
theorem smear (v s b : Nat) (hb : b ≤ 64) (h1 : v < 2 ^ b) (h2 : 2 ^ b ≤ 2 * v) : ∃ u : Nat, bits .or .u64 (v : Int) ((v : Int) / 2 ^ s) = (u : Int) ∧ u < 2 ^ b ∧ 2 ^ b ≤ 2 * u := by
 have hp : (2 : Nat) ^ b ≤ 2 ^ 64 := Nat.pow_le_pow_right (by omega) hb
 have hd : v / 2 ^ s ≤ v := Nat.div_le_self _ _
 refine ⟨v ||| (v / 2 ^ s), ?_, Nat.or_lt_two_pow h1 (by omega), ?_⟩
 ·have := or_u64 v (v / 2 ^ s) (by omega) (by omega)
  rw [← this]
  congr 1
 ·have := Nat.left_le_or (n := v) (m := v / 2 ^ s)
  omega
theorem bitLen_eq (v b : Nat) (hb0 : 1 ≤ b) (hb : b ≤ 64) (h1 : v < 2 ^ b) (h2 : 2 ^ b ≤ 2 * v) : Lib.bitLen v = b := by
 obtain ⟨c, rfl⟩ : ∃ c, b = c + 1 := ⟨b - 1, by omega⟩
 rw [Nat.pow_succ] at h1 h2
 have hp : 0 < 2 ^ c := Nat.pow_pos (by omega)
 have hv : v < 2 ^ 64 := Nat.lt_of_lt_of_le h1 (by rw [← Nat.pow_succ]; exact Nat.pow_le_pow_right (by omega) hb)
 rw [Lib.bitLen_shift c v (by omega) hv]
 have : v / 2 ^ c = 1 := by
  refine Nat.div_eq_of_lt_le (by omega) (by omega)
 rw [this]
 have : Lib.bitLen 1 = 1 := by decide
 omega
theorem bits_of (a : Nat) (h0 : 0 < a) (h : a < 18446744073709551616) : ∃ b, 1 ≤ b ∧ b ≤ 64 ∧ a < 2 ^ b ∧ 2 ^ b ≤ 2 * a := by
 have h1 := Nat.log2_self_le (n := a) (by omega)
 have h2 := Nat.lt_log2_self (n := a)
 refine ⟨Nat.log2 a + 1, by omega, ?_, h2, by rw [Nat.pow_succ]; omega⟩
 have : Nat.log2 a < 64 := (Nat.log2_lt (by omega)).2 (by simpa using h)
 omega
set_option maxRecDepth 100000 in
set_option maxHeartbeats 2000000 in
theorem natBitLen_any (zb zo c n a : Nat) (hn : n ≤ 100) (ha0 : 0 < a) (ha : a < 18446744073709551616) (w : World) (hc : w.cell? ⟨zb, zo + n, none⟩ = some (wd a)) :
  Calls Tryz.prog 143 #[.slice (some ⟨zb, zo, none⟩) (n + 1) c] w fun e w' => ∃ b : Nat, e = .returned (.int .i64 ((n * 64 + b : Nat) : Int)) ∧ 1 ≤ b ∧ b ≤ 64 ∧ a < 2 ^ b ∧ 2 ^ b ≤ 2 * a ∧ w' = w := by
 obtain ⟨b, hb0, hb, h1, h2⟩ := bits_of a ha0 ha
 obtain ⟨v1, e1, p1, q1⟩ := smear a 1 b hb h1 h2
 obtain ⟨v2, e2, p2, q2⟩ := smear v1 2 b hb p1 q1
 obtain ⟨v3, e3, p3, q3⟩ := smear v2 4 b hb p2 q2
 obtain ⟨v4, e4, p4, q4⟩ := smear v3 8 b hb p3 q3
 obtain ⟨v5, e5, p5, q5⟩ := smear v4 16 b hb p4 q4
 obtain ⟨v6, e6, p6, q6⟩ := smear v5 32 b hb p5 q5
 have e6' : bits .or .u64 (v5 : Int) ((v5 : Int) / 65536 / 65536) = (v6 : Int) := by
  rw [← e6]
  congr 1
  show (v5 : Int) / 65536 / 65536 = (v5 : Int) / 4294967296
  omega
 simp only [Int.reducePow] at e1 e2 e3 e4 e5
 have hp : (2 : Nat) ^ b ≤ 2 ^ 64 := Nat.pow_le_pow_right (by omega) hb
 have hl := bits_Len (v6 : Int) w (by omega) (by omega)
 have hbl := bitLen_eq v6 b hb0 hb p6 q6
 rw [Int.toNat_natCast, hbl] at hl
 have Hl := Lib.hid hl
 have H1 := Lib.hid h1
 have H2 := Lib.hid h2
 clear hl hbl e6 h1 h2 hp
 go_enter Tryz.func143, Tryz.ntmps143
 go_wp2_with fail
 refine Hl.out.mono ?_
 rintro e w1 ⟨rfl, rfl⟩
 go_wp2_with fail
 go_ret
 exact ⟨b, by go_num, hb0, hb, H1.out, H2.out, rfl⟩
end Go.Proofs.YtammjbmfiakbnaaGreatDoor
namespace Go.Proofs.YtammjbmfiakbnaaGreatDoor
open Go.RowKit
theorem pow64 (n : Nat) : (18446744073709551616 : Nat) ^ n = 2 ^ (n * 64) := by
 rw [show (18446744073709551616 : Nat) = 2 ^ 64 from rfl, ← Nat.pow_mul, Nat.mul_comm]
set_option maxRecDepth 100000 in
theorem intBitLen_any (B : Nat) (s : Bool) (z : Value) (n : Int) (hn0 : n ≠ 0) (w : World) (h : IntIn w B s z n) :
  Calls Tryz.prog 119 #[.pointer (some ⟨B, 0, none⟩)] w fun e w' => ∃ k : Nat, e = .returned (.int .i64 (k : Int)) ∧ n.natAbs < 2 ^ k ∧ 2 ^ k ≤ 2 * n.natAbs ∧ 1 ≤ k ∧ k ≤ 3000 ∧ w' = w := by
 obtain ⟨hb, A, c, l, rfl, hlc, hcm, hseg, hw, hnr, hl, hn, hg⟩ := h
 obtain ⟨c0, c1⟩ := hb.c2
 have hlne : l ≠ [] := by
  rintro rfl
  apply hn0
  rw [hn]
  cases s <;> rfl
 obtain ⟨zb, zo, rfl, hzb, -, hcells⟩ := hseg (by intro e; rw [List.map_eq_nil_iff] at e; exact hlne e)
 obtain ⟨m, a, hma⟩ : ∃ m a, l = m ++ [a] := ⟨l.dropLast, l.getLast hlne, (List.dropLast_concat_getLast hlne).symm⟩
 subst hma
 have hll : (m ++ [a]).length = m.length + 1 := by simp
 have ha := hw a (by simp)
 have ha0 : 0 < a := by
  rcases Nat.eq_zero_or_pos a with h | h
  ·exact absurd (by rw [h]; simp) hnr
  ·exact h
 have hcz := hcells m.length (wd a) (by simp)
 have hc := natBitLen_any zb zo c m.length a (by omega) ha0 ha w hcz
 have hval : n.natAbs = wVal (m ++ [a]) := by rw [hn]; cases s <;> simp
 have hm : wVal m < 2 ^ (m.length * 64) := by
  have := wVal_lt m (fun x hx => hw x (by simp [hx]))
  rw [show (256 : Nat) = 2 ^ 8 from rfl, ← Nat.pow_mul] at this
  rwa [show 8 * (8 * m.length) = m.length * 64 by omega] at this
 rw [wVal_append, pow64] at hval
 simp only [wVal, Nat.mul_zero, Nat.add_zero] at hval
 have Hc := Lib.hid hc
 have Hval := Lib.hid hval
 have Hm := Lib.hid hm
 rw [hll] at c1
 clear hc hval hm hcz hcells hw hnr hn hg hlne hn0 hb hseg
 go_enter Tryz.func119, Tryz.ntmps119
 go_wp2_with fail
 refine Hc.out.mono ?_
 rintro e w1 ⟨b, rfl, h1, h2, h3, h4, rfl⟩
 go_wp2_with fail
 go_ret
 have hv := Hval.out
 have hm := Hm.out
 refine ⟨m.length * 64 + b, rfl, ?_, ?_, by omega, by omega, rfl⟩
 ·rw [hv, Nat.pow_add]
  have := Nat.mul_le_mul_left (2 ^ (m.length * 64)) (show a + 1 ≤ 2 ^ b by omega)
  rw [Nat.mul_add, Nat.mul_one] at this
  omega
 ·rw [hv, Nat.pow_add]
  have := Nat.mul_le_mul_left (2 ^ (m.length * 64)) h4
  rw [show 2 ^ (m.length * 64) * (2 * a) = 2 * (2 ^ (m.length * 64) * a) by ac_rfl] at this
  omega
end Go.Proofs.YtammjbmfiakbnaaGreatDoor
namespace Go.Proofs.YtammjbmfiakbnaaGreatDoor
open Go.RowKit
set_option maxRecDepth 100000 in
set_option maxHeartbeats 2000000 in
theorem intLsh_any (D B gx q r s : Nat) (hs : s = 64 * q + r) (hr : r = 0 ∨ By8 r) (hs0 : 1 ≤ s) (hq : q ≤ 100) (hDB : B ≠ D) (w0 w : World) (hE : Ext w0 w) (hD0 : w0.heap.size ≤ D) (hD : Blk w D 114 #[.bool false, .slice none 0 0]) (hB : Blk w B 114 #[.bool false, .slice (some ⟨gx, 0, none⟩) 1 1]) (hX : Blk w gx 291 #[wd 1]) :
  Calls Tryz.prog 121 #[.pointer (some ⟨D, 0, none⟩), .pointer (some ⟨B, 0, none⟩), .int .u64 s] w fun e w' => e = .returned (.pointer (some ⟨D, 0, none⟩)) ∧
   ∃ (z : Value) (l : List Nat), Blk w' D 114 #[.bool false, z] ∧ NatW w' w.heap.size z l ∧ wVal l = 2 ^ s ∧ l.length ≤ q + 2 ∧ Ext w0 w' := by
 have HC := Lib.hid (lsh_any gx q r s hs hr hs0 hq w.drew hX)
 have HD := Lib.hid hD
 have HB := Lib.hid hB
 have HE := Lib.hid hE
 have hDl := hD.lt
 obtain ⟨c0, c1⟩ := hD.c2
 obtain ⟨d0, d1⟩ := hB.c2
 have fz : ∀ i, w.frozen? ⟨D, i, none⟩ = false := fun i => hD.frozen i
 clear hD hB hE hX hs hr
 go_enter Tryz.func121, Tryz.ntmps121
 go_wp2_with fail
 go_region_with (refine HC.out.mono ?_; rintro e w2 ⟨z, l, rfl, hz, hv, hl, hE2⟩; obtain ⟨zA, zc, rfl, -⟩ := ownB_slice hz.1; have hE2 : Ext w w2 := (Ext.refl w).drew.trans hE2; have hD2 := HD.out.ext hE2; have f2 : w2.frozen? ⟨D, 1, none⟩ = false := hD2.frozen 1; have c21 : w2.cell? ⟨D, 1, none⟩ = some (.slice none 0 0) := hD2.cell 1; clear hD2)
 all_goals
  have HZ := Lib.hid hz
  generalize hW : World.setCell _ _ _ = W1
  have h1 : Blk W1 D 114 #[.bool false, .slice zA l.length zc] ∧ Blk W1 B 114 #[.bool false, .slice (some ⟨gx, 0, none⟩) 1 1] ∧ FrameG w2 W1 D := by
   rw [← hW]
   exact ⟨(HD.out.ext hE2).set_ 1 _, ((FrameG.refl w2 D).set _).blk hDB (HB.out.ext hE2), (FrameG.refl w2 D).set _⟩
  clear hW c0 c1 d0 d1 fz f2 c21 hz
  obtain ⟨h1, h2, h3⟩ := h1
  obtain ⟨c0, c1⟩ := h1.c2
  obtain ⟨d0, d1⟩ := h2.c2
  have fz : ∀ i, W1.frozen? ⟨D, i, none⟩ = false := fun i => h1.frozen i
  have H1 := Lib.hid h1
  have H3 := Lib.hid h3
  have HE2 := Lib.hid hE2
  clear h1 h2 h3 hE2
  go_wp2_with fail
  go_ret
  have hf : FrameG w2 (W1.setCell ⟨D, 0, none⟩ (.bool false)) D := H3.out.set _
  exact ⟨rfl, _, l, H1.out.set_ 0 _, HZ.out.frame hf hDl, hv, hl, hf.ext (HE.out.trans HE2.out) hD0⟩
end Go.Proofs.YtammjbmfiakbnaaGreatDoor
namespace Go.Proofs.YtammjbmfiakbnaaGreatDoor
open Go.RowKit
theorem drewN_drewN (w : World) (a b : Nat) : (w.drewN a).drewN b = w.drewN (a + b) := by
 simp [World.drewN, Nat.add_assoc]
set_option maxRecDepth 100000 in
set_option maxHeartbeats 2000000 in
theorem cmp_any (x y : List Nat) (gx ox cx gy oy cy : Nat) (hl : y.length ≤ 1000000) (hx : ∀ a ∈ x, a < 18446744073709551616) (hy : ∀ a ∈ y, a < 18446744073709551616) (hnx : Nrm x) (hlt : wVal x < wVal y) (w : World)
  (hxs : ∀ j a, x[j]? = some a → w.cell? ⟨gx, ox + j, none⟩ = some (wd a)) (hys : ∀ j a, y[j]? = some a → w.cell? ⟨gy, oy + j, none⟩ = some (wd a)) :
  Calls Tryz.prog 145 #[.slice (some ⟨gx, ox, none⟩) x.length cx, .slice (some ⟨gy, oy, none⟩) y.length cy] w fun e w' => e = .returned (.int .i64 (-1)) ∧ ∃ q, w' = w.drewN q := by
 have hle := len_le (.inr hnx) hy (Nat.le_of_lt hlt)
 by_cases hne : x.length = y.length
 ·have hpos : 0 < y.length := by
   rcases Nat.eq_zero_or_pos y.length with h | h
   ·have hx0 : x = [] := List.length_eq_zero_iff.1 (by omega)
    have hy0 : y = [] := List.length_eq_zero_iff.1 h
    subst hx0; subst hy0
    exact absurd hlt (by simp)
   ·exact h
  have HX := Lib.hid hx
  have HY := Lib.hid hy
  have HXS := Lib.hid hxs
  have HYS := Lib.hid hys
  have HL := Lib.hid hlt
  have HNE := Lib.hid hne
  rw [hne]
  obtain ⟨n, hn⟩ : ∃ n, y.length = n + 1 := ⟨y.length - 1, by omega⟩
  rw [hn]
  have HN := Lib.hid hn
  have hn1 : n + 1 ≤ 1000000 := by omega
  have hnn : ((n + 1 : Nat) : Int) = (n : Int) + 1 := by omega
  clear hx hy hxs hys hlt hne hle hnx hpos hl hn
  go_enter Tryz.func145, Tryz.ntmps145
  go_wp2_with fail
  go_loopw [7] (fun v wr => ∃ i : Nat, i ≤ n ∧ v = .int .i64 i ∧ (∀ j, i < j → x[j]? = y[j]?) ∧ ∃ q, wr = w.drewN q) (fun v _ => (intOf v).toNat)
  case atStart => exact ⟨n, Nat.le_refl _, by go_num, fun j hj => (by rw [List.getElem?_eq_none (by have := HN.out; have := HNE.out; omega), List.getElem?_eq_none (by have := HN.out; omega)]), 0, rfl⟩
  case round =>
   obtain ⟨i, hi, rfl, hz, q, hwr⟩ := hrel
   have Hz := Lib.hid hz
   clear hz
   obtain ⟨a, ha⟩ : ∃ a, x[i]? = some a := ⟨_, List.getElem?_eq_getElem (by have := HN.out; have := HNE.out; omega)⟩
   obtain ⟨b, hb⟩ : ∃ b, y[i]? = some b := ⟨_, List.getElem?_eq_getElem (by have := HN.out; omega)⟩
   have c0 : wr.cell? ⟨gx, ox + i, none⟩ = some (wd a) := by rw [hwr]; exact HXS.out i a ha
   have c1 : wr.cell? ⟨gy, oy + i, none⟩ = some (wd b) := by rw [hwr]; exact HYS.out i b hb
   have Hwr := Lib.hid hwr
   clear hwr
   have Ha := Lib.hid ha
   have Hb := Lib.hid hb
   clear ha hb
   have fin : i = 0 ∨ a ≠ b → a < b := fun hor => cmp_at HNE.out Ha.out Hb.out HX.out HY.out Hz.out hor HL.out
   by_cases hi0 : (i : Int) = 0
   ·obtain rfl : i = 0 := by omega
    have hab := fin (.inl rfl)
    simp only [Nat.add_zero] at c0 c1
    clear hi0
    have hab' : (a : Int) < b := by omega
    clear fin
    go_wp2_with fail
    go_quiet (fail)
    go_wp2_with fail
    go_quiet (fail)
    go_wp2_with fail
    go_ret
    exact ⟨rfl, by rw [Hwr.out]; exact ⟨_, by rw [drewN_drewN, drewN_drewN]⟩⟩
   ·by_cases heq : a = b
    ·subst heq
     have hpos : 0 < i := by omega
     have Hz2 : Hid (∀ j, i - 1 < j → x[j]? = y[j]?) := Lib.hid fun j hj => by
      by_cases hjp : j = i
      ·subst hjp
       rw [Ha.out, Hb.out]
      ·exact Hz.out j (by omega)
     clear fin
     go_wp2_with fail
     go_quiet (fail)
     go_wp2_with fail
     go_roundw
     case rel => exact ⟨i - 1, by omega, by congr 1; omega, Hz2.out, by rw [Hwr.out]; exact ⟨_, drewN_drewN _ _ _⟩⟩
     case measure => simp [intOf]; omega
    ·have hab := fin (.inr heq)
     have hab' : (a : Int) < b := by omega
     have hpos : 0 < i := by omega
     have e0 : ((a : Int) == b) = false := beq_eq_false_iff_ne.2 (by omega)
     clear fin heq
     go_wp2_with fail
     go_quiet (fail)
     go_wp2_with fail
     go_quiet (fail)
     go_wp2_with fail
     go_ret
     exact ⟨rfl, by rw [Hwr.out]; exact ⟨_, by rw [drewN_drewN, drewN_drewN]⟩⟩
 ·have h1 : (x.length : Int) < y.length := by omega
  have h2 : ((x.length : Int) != y.length) = true := by simp; omega
  generalize x.length = m at *
  generalize y.length = n at *
  clear hx hy hxs hys hnx hlt hne
  go_enter Tryz.func145, Tryz.ntmps145
  go_wp2_with fail
  go_ret
  exact ⟨rfl, 0, rfl⟩
end Go.Proofs.YtammjbmfiakbnaaGreatDoor
namespace Go.Proofs.YtammjbmfiakbnaaGreatDoor
open Go.RowKit
/-- The greater number has at most one word more. -/
theorem len_close {x y : List Nat} (hx : ∀ a ∈ x, a < 18446744073709551616) (hy : Nrm y) (h0 : y ≠ []) (h : wVal y < 18446744073709551616 * wVal x) : y.length ≤ x.length + 1 := by
 rcases Nat.lt_or_ge (x.length + 1) y.length with hlt | hge
 ·exfalso
  have h1 := wVal_ge h0 hy
  have h2 := wVal_lt64 x hx
  have h3 : 18446744073709551616 ^ (x.length + 1) ≤ 18446744073709551616 ^ (y.length - 1) := Nat.pow_le_pow_right (by omega) (by omega)
  rw [Nat.pow_succ] at h3
  have h4 : 18446744073709551616 * wVal x ≤ 18446744073709551616 ^ x.length * 18446744073709551616 := by rw [Nat.mul_comm]; exact Nat.mul_le_mul_right _ (Nat.le_of_lt h2)
  omega
 ·exact hge
set_option maxRecDepth 100000 in
set_option maxHeartbeats 4000000 in
theorem intAdd_any (D A Y gy oy cy gx cx : Nat) (x y : List Nat) (hAD : A ≠ D) (hYD : Y ≠ D) (w0 w : World) (hE : Ext w0 w) (hD0 : w0.heap.size ≤ D) (hD : Blk w D 114 #[.bool false, .slice none 0 0]) (hA : BlkI w A (.bool true) (.slice (some ⟨gy, oy, none⟩) y.length cy)) (hY : Blk w Y 114 #[.bool false, .slice (some ⟨gx, 0, none⟩) x.length cx])
  (xa : Array Value) (tx : TypeId) (hX : Blk w gx tx xa) (hgy : gy < w.heap.size) (hxs : ∀ j a, x[j]? = some a → w.cell? ⟨gx, j, none⟩ = some (wd a)) (hys : ∀ j a, y[j]? = some a → w.cell? ⟨gy, oy + j, none⟩ = some (wd a)) (hx : ∀ a ∈ x, a < 18446744073709551616) (hy : ∀ a ∈ y, a < 18446744073709551616)
  (hnx : Nrm x) (hny : Nrm y) (hy0 : y ≠ []) (hlt : wVal y < wVal x) (hcl : wVal x < 18446744073709551616 * wVal y) (hl : x.length ≤ 1000) (hcx : x.length ≤ cx ∧ cx ≤ 9223372036854775807) (hcy : y.length ≤ cy ∧ cy ≤ 9223372036854775807) :
  Calls Tryz.prog 120 #[.pointer (some ⟨D, 0, none⟩), .pointer (some ⟨A, 0, none⟩), .pointer (some ⟨Y, 0, none⟩)] w fun e w' => e = .returned (.pointer (some ⟨D, 0, none⟩)) ∧
   ∃ (z : Value) (l : List Nat), Blk w' D 114 #[.bool false, z] ∧ NatW w' w.heap.size z l ∧ wVal l + wVal y = wVal x ∧ l.length ≤ x.length ∧ Ext w0 w' := by
 have hyp : 1 ≤ y.length := List.length_pos_iff.2 hy0
 have hle := len_le (.inr hny) hx (Nat.le_of_lt hlt)
 have hx0 : x ≠ [] := by rintro rfl; simp at hle; exact hy0 hle
 have hle2 := len_close hy hnx hx0 hcl
 have HCm := Lib.hid (fun q => cmp_any y x gy oy cy gx 0 cx (by omega) hy hx hny hlt (w.drewN q) hys (fun j a ha => by rw [Nat.zero_add]; exact hxs j a ha))
 have HC := Lib.hid (fun q => nsub_any x y gx cx gy oy cy xa tx hyp (by omega) hl hx hy (Nat.le_of_lt hlt) hcx hcy (w.drewN q) hX hgy hxs hys)
 have HD := Lib.hid hD
 have HA := Lib.hid hA
 have HY := Lib.hid hY
 have HE := Lib.hid hE
 have hDl := hD.lt
 obtain ⟨c0, c1⟩ := hD.c2
 obtain ⟨d0, d1⟩ := hA.c2
 obtain ⟨y0, y1⟩ := hY.c2
 have fz : ∀ i, w.frozen? ⟨D, i, none⟩ = false := fun i => hD.frozen i
 clear hD hA hY hE hX hx hy hxs hys hnx hny hy0 hlt hcl hle hle2 hx0 hyp
 go_enter Tryz.func120, Tryz.ntmps120
 go_wp2_with fail
 go_quiet (fail)
 go_wp2_with fail
 go_region_with (refine (HCm.out _).mono ?_; rintro e w2 ⟨rfl, q2, rfl⟩)
 all_goals go_wp2_with fail
 all_goals
  generalize hq : World.drewN w _ = Wq
  obtain ⟨k, hk⟩ : ∃ k, Wq = w.drewN k := ⟨_, hq.symm⟩
  clear hq
  have HCk := Lib.hid (HC.out (k + 1))
  have hdr : Wq.drew = w.drewN (k + 1) := by rw [hk]; rfl
  rw [← hdr] at HCk
  have hEq : Ext w Wq := by rw [hk]; exact (Ext.refl w).drewN k
  have HDq := Lib.hid (HD.out.ext hEq)
  have HAq := Lib.hid (HA.out.ext hEq)
  have HYq := Lib.hid (HY.out.ext hEq)
  have HEq := Lib.hid (HE.out.trans hEq)
  have hsz : Wq.drew.heap.size = w.heap.size := by rw [hdr]; rfl
  have hDlq := hDl
  clear c0 c1 d0 d1 y0 y1 fz hk hdr hEq HCm HC HD HA HY HE
  rw [← hsz] at hDlq
  have Hsz := Lib.hid hsz
  clear hsz
  obtain ⟨c0, c1⟩ := HDq.out.c2
  obtain ⟨d0, d1⟩ := HAq.out.c2
  obtain ⟨y0, y1⟩ := HYq.out.c2
  have fz : ∀ i, Wq.frozen? ⟨D, i, none⟩ = false := fun i => HDq.out.frozen i
  go_region_with (refine HCk.out.mono ?_; rintro e w2 ⟨z, l, rfl, hz, hv, hl', hE2⟩; obtain ⟨zA, zc, rfl, -⟩ := ownB_slice hz.1; have hE2 : Ext Wq w2 := (Ext.refl Wq).drew.trans hE2; have hD2 := HDq.out.ext hE2; have f2 : w2.frozen? ⟨D, 1, none⟩ = false := hD2.frozen 1; have c21 : w2.cell? ⟨D, 1, none⟩ = some (.slice none 0 0) := hD2.cell 1; clear hD2)
  all_goals
   have HZ := Lib.hid hz
   generalize hW : World.setCell _ _ _ = W1
   have h1 : Blk W1 D 114 #[.bool false, .slice zA l.length zc] ∧ FrameG w2 W1 D := by
    rw [← hW]
    exact ⟨(HDq.out.ext hE2).set_ 1 _, (FrameG.refl w2 D).set _⟩
   clear hW c0 c1 d0 d1 y0 y1 fz f2 c21 hz
   obtain ⟨h1, h3⟩ := h1
   obtain ⟨c0, c1⟩ := h1.c2
   have fz : ∀ i, W1.frozen? ⟨D, i, none⟩ = false := fun i => h1.frozen i
   have H1 := Lib.hid h1
   have H3 := Lib.hid h3
   have HE2 := Lib.hid hE2
   have Hv := Lib.hid hv
   clear h1 h3 hE2 hv
   go_wp2_with fail
   all_goals
    go_ret
    have hf : FrameG w2 (W1.setCell ⟨D, 0, none⟩ (.bool false)) D := H3.out.set _
    exact ⟨rfl, _, l, H1.out.set_ 0 _, by rw [← Hsz.out]; exact HZ.out.frame hf hDlq, Hv.out, hl', hf.ext (HEq.out.trans HE2.out) hD0⟩
end Go.Proofs.YtammjbmfiakbnaaGreatDoor
namespace Go.Proofs.YtammjbmfiakbnaaGreatDoor
theorem tc_zero : tc 0 = [0] := IsTc.tc_eq ⟨by simp, by simp [tcVal, beVal], fun a b r e => by simp at e⟩
theorem pow256 (t : Nat) : (2 : Nat) ^ (8 * t) = 256 ^ t := by rw [Nat.pow_mul]
theorem neg_bytes {a : UInt8} {b : List UInt8} {m k : Nat} (hk1 : m < 2 ^ k) (hk2 : 2 ^ k ≤ 2 * m) (ha : a.toNat ≠ 0) (hv : beVal (a :: b) + m = 2 ^ (8 * (k / 8 + 1))) :
  (∀ c t, b = c :: t → tc (-(m : Int)) = if a.toNat = 255 ∧ 128 ≤ c.toNat then b else a :: b) ∧ (b = [] → tc (-(m : Int)) = a :: b) ∧ b.length = k / 8 := by
 rw [pow256] at hv
 have hb1 := beVal_lt (a :: b)
 have hb0 : 256 ^ b.length ≤ beVal (a :: b) := by
  simp only [beVal]
  have := Nat.mul_le_mul_right (256 ^ b.length) (show 1 ≤ a.toNat by omega)
  omega
 have hp : (256 : Nat) ^ (k / 8 + 1) = 256 ^ (k / 8) * 256 := Nat.pow_succ _ _
 have hkp : (2 : Nat) ^ k ≤ 128 * 256 ^ (k / 8) := by
  rw [show (128 : Nat) = 2 ^ 7 from rfl, ← pow256, ← Nat.pow_add]
  exact Nat.pow_le_pow_right (by omega) (by omega)
 have hlen : b.length = k / 8 := by
  rcases Nat.lt_trichotomy b.length (k / 8) with h | h | h
  ·exfalso
   have h1 : (256 : Nat) ^ (b.length + 1) ≤ 256 ^ (k / 8) := Nat.pow_le_pow_right (by omega) (by omega)
   simp only [List.length_cons] at hb1
   omega
  ·exact h
  ·exfalso
   have h1 : (256 : Nat) ^ (k / 8 + 1) ≤ 256 ^ b.length := Nat.pow_le_pow_right (by omega) (by omega)
   omega
 have hpos : 0 < m := by
  have : 0 < 2 ^ k := Nat.pow_pos (by omega)
  omega
 have h3 : ∀ q, b.length = q + 1 → 128 * 256 ^ q ≤ m := fun q hq => by
  have h1 : (2 : Nat) ^ (8 * (q + 1)) ≤ 2 ^ k := Nat.pow_le_pow_right (by omega) (by omega)
  rw [pow256, Nat.pow_succ] at h1
  omega
 rw [← hlen] at hv hp hkp
 refine ⟨fun c t e => ?_, fun e => ?_, hlen⟩
 ·subst e
  exact tc_neg a (c :: t) m hv (by omega) h3
 ·subst e
  exact tc_neg a [] m hv (by omega) h3
end Go.Proofs.YtammjbmfiakbnaaGreatDoor
