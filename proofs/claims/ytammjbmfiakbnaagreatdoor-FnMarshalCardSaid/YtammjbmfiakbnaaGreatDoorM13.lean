/- A part of the proof that the card of laws.FnMarshal holds. No conditions. -/
import Derived.Test.YtammjbmfiakbnaaGreatDoorM08
import Derived.Test.YtammjbmfiakbnaaGreatDoorM04
import Derived.Test.YtammjbmfiakbnaaGreatDoorM09
import Derived.Test.YtammjbmfiakbnaaGreatDoorM12
import Derived.Test.YtammjbmfiakbnaaGreatDoorM03
set_option linter.unusedSimpArgs false
set_option linter.unusedVariables false
namespace Go.Proofs.YtammjbmfiakbnaaGreatDoor
open Go.RowKit
theorem shr_u64 (u j : Nat) (hj : j ≤ 64) (W : World) : (Op.shift .shr .u64 (u : Int) .i64 (j : Int)).run Tryz.prog W = .ok (.int .u64 ((u / 2 ^ j : Nat) : Int)) W := by
 rw [shift_shr .u64 .i64 (u : Int) (j : Int) (by omega) (by simp [IntKind.bits]; omega)]
 simp
theorem mk_bytes (k : Nat) (hk : k ≤ 1099511627776) (W : World) : (Instr.makeSlice 27 (.int .i64 (k : Int)) (.int .i64 (k : Int))).run Tryz.prog W = .ok (.slice (some ⟨W.heap.size, 0, none⟩) k k) (W.alloc (.cells (madeCells #[.int .u8 0] k) 5)) := by
 obtain ⟨i0, hi0, hz0, hz1, hz2⟩ := info_parts info5
 have h := run_make (P := Tryz.prog) W 27 5 i0 _ Tryz.underlying27 hi0 hz0 .i64 .i64 (k : Int) (k : Int) (by omega) (Int.le_refl _) (by rw [hz2]; omega) (by omega)
 rw [hz1, Nat.mul_one] at h
 simp only [Int.toNat_natCast] at h
 exact h
theorem mk_own {w0 W : World} (h : Ext w0 W) (k : Nat) (hk : k ≤ 1099511627776) : OwnB w0 (W.alloc (.cells (madeCells #[.int .u8 0] k) 5)) (.slice (some ⟨W.heap.size, 0, none⟩) k k) (List.replicate k 0) := by
 refine ⟨?_, h.alloc _⟩
 have h1 := World.ownsRow_lit (base := w0.heap.size) (e := 5) (size := 1) W (madeCells #[.int .u8 0] k) k h.size (by unfold maxLen; omega) (by rw [size_madeCells, Nat.mul_one])
 rw [toList_madeCells_one] at h1
 simpa [byteV] using h1
theorem drop_set_lo {l : List UInt8} {p : Nat} (hp : p < l.length) (b : UInt8) : (l.set p b).drop p = b :: l.drop (p + 1) := by
 rw [List.drop_eq_getElem_cons (by simpa using hp)]
 simp [List.drop_set_of_lt]
theorem shr_be (u i : Nat) : u / 2 ^ (8 * i) = u / 256 ^ i := by rw [Nat.pow_mul]
theorem bt_u (x : Nat) : (UInt8.ofNat (x % 256)) = bt (x : Int) := by
 unfold bt
 congr 1
set_option maxRecDepth 100000 in
set_option maxHeartbeats 4000000 in
theorem vint_any (n : Int) (hn : -9223372036854775808 ≤ n ∧ n ≤ 9223372036854775807) (w : World) : Calls Tryz.prog 33 #[.int .i64 n] w fun e w' => ∃ r, e = .returned r ∧ OwnB w w' r (vintB n) := by
 obtain ⟨i0, hi0, hz0, hz1, hz2⟩ := info_parts info5
 have hzl := zz_lt n hn
 have hzz : bits .xor .u64 (IntKind.u64.wrap (IntKind.i64.wrap (n * 2))) (IntKind.u64.wrap (n / 9223372036854775808)) = (zz n : Int) := by
  unfold zz
  by_cases h : 0 ≤ n
  ·have e1 : n / 9223372036854775808 = 0 := by omega
   rw [e1, if_pos h, show IntKind.u64.wrap 0 = 0 by rfl, IntKind.wrap_i64, IntKind.wrap_u64]
   rw [bits_u64_zero _ (by omega) (by omega)]
   omega
  ·have e1 : n / 9223372036854775808 = -1 := by omega
   rw [e1, if_neg h, show IntKind.u64.wrap (-1) = 18446744073709551615 by rfl, IntKind.wrap_i64, IntKind.wrap_u64]
   rw [bits_u64_ones _ (by omega) (by omega)]
   omega
 rw [IntWalk.i64_left] at hzz
 show Calls Tryz.prog 33 #[.int .i64 n] w fun e w' => ∃ r, e = .returned r ∧ OwnB w w' r (vintU (zz n))
 generalize zz n = u at hzz hzl ⊢
 go_enter Tryz.func33, Tryz.ntmps33
 go_wp2_with fail
 clear hzz
 go_loopw [4] (fun v wr => ∃ k : Nat, v = .int .i64 k ∧ 1 ≤ k ∧ k ≤ 9 ∧ (k = 1 ∨ 128 ^ (k - 1) ≤ u) ∧ wr = w) (fun v _ => 9 - (intOf v).toNat)
 case atStart => exact ⟨1, rfl, Nat.le_refl _, by omega, .inl rfl, rfl⟩
 case round =>
  obtain ⟨k, rfl, h1, h9, hlo, rfl⟩ := hrel
  by_cases hk : (k : Int) < 9
  ·have hsh := shr_u64 u (7 * k) (by omega)
   have e7 : ((7 * k : Nat) : Int) = 7 * (k : Int) := by omega
   rw [e7] at hsh
   have hp : 2 ^ (7 * k) = 128 ^ k := Nat.pow_mul 2 7 k
   by_cases hz : u / 2 ^ (7 * k) = 0
   ·have hz' : ((u : Int) / 2 ^ (7 * k) != 0) = false := by
     have : (u : Int) / 2 ^ (7 * k) = ((u / 2 ^ (7 * k) : Nat) : Int) := by simp
     rw [this, hz]
     rfl
    have hv : vsz u = k := vsz_of u k h1 h9 hlo (.inr (by
     rw [hp] at hz
     rcases Nat.lt_or_ge u (128 ^ k) with h | h
     ·exact h
     ·have := Nat.div_pos h (Nat.pow_pos (by omega)); omega))
    have hu128 : u < 128 ^ k := by
     rw [hp] at hz
     rcases Nat.lt_or_ge u (128 ^ k) with h | h
     ·exact h
     ·have := Nat.div_pos h (Nat.pow_pos (by omega)); omega
    clear hp hz hlo
    have hmk := mk_bytes k (by omega)
    have hk9 : ((k : Int) == 9) = false := by simp; omega
    go_wp2_with fail
    obtain ⟨wp, hwp⟩ : ∃ x, x = wr := ⟨wr, rfl⟩
    subst hwp
    have HO := Lib.hid (mk_own (Ext.refl wp) k (by omega))
    clear hmk hsh hz'
    go_loopw [47] (fun v wr => ∃ (i : Nat) (l : List UInt8), v = .int .i64 i ∧ i ≤ k ∧ l.length = k ∧ l.drop (k - i) = beN u i ∧ OwnB wp wr (.slice (some ⟨wp.heap.size, 0, none⟩) k k) l) (fun v _ => k - (intOf v).toNat)
    case atStart => exact ⟨0, _, rfl, Nat.zero_le _, by simp, by simp [beN], HO.out⟩
    case round =>
     obtain ⟨i, l, rfl, hi, hl, hd, hO⟩ := hrel
     by_cases hlt : (i : Int) < k
     ·obtain ⟨x, hx⟩ : ∃ x, l[k - 1 - i]? = some x := ⟨_, List.getElem?_eq_getElem (by omega)⟩
      obtain ⟨c0, f0⟩ := own_get (own_len hO.1 hl) (byteV_some hx)
      have hO2 := OwnB.set (x := u / 2 ^ (8 * i) % 256) (hl ▸ hO) (k := k - 1 - i) (by omega) (by omega)
      have e9 : ((u / 2 ^ (8 * i) % 256 : Nat) : Int) = (u : Int) / 2 ^ (8 * i) % 256 := by simp
      rw [hl, e9] at hO2
      have HO2 := Lib.hid hO2
      have hsh := shr_u64 u (8 * i) (by omega)
      have e8 : ((8 * i : Nat) : Int) = 8 * (i : Int) := by omega
      rw [e8] at hsh
      have ei : (k : Int) - 1 - (i : Int) = ((k - 1 - i : Nat) : Int) := by omega
      have hd2 : (l.set (k - 1 - i) (UInt8.ofNat (u / 2 ^ (8 * i) % 256))).drop (k - (i + 1)) = beN u (i + 1) := by
       rw [show k - (i + 1) = k - 1 - i by omega, drop_set_lo (by omega), show k - 1 - i + 1 = k - i by omega, hd, bt_u, shr_be]
       simp [beN]
      have Hd2 := Lib.hid hd2
      have hw8 : IntKind.u8.wrap ((u : Int) / 2 ^ (8 * i)) = (u : Int) / 2 ^ (8 * i) % 256 := IntKind.wrap_u8 _
      have hki : k - 1 - i < k := by omega
      have Hl := Lib.hid hl
      clear hO hO2 hd hd2 hl hx
      go_wp2_with fail
      go_roundw
      case rel => exact ⟨i + 1, _, by go_num, by omega, by simp [Hl.out], Hd2.out, HO2.out⟩
      case measure => simp [intOf]; omega
     ·obtain rfl : i = k := by omega
      rw [Nat.sub_self, List.drop_zero] at hd
      subst hd
      rename_i kk
      have hv' : ∀ x, i = x → vintU u = bt (((u / 256 ^ (x - 1) + vmask x : Nat)) : Int) :: beN u (x - 1) := fun x hx => by
       subst hx
       unfold vintU
       rw [hv, if_neg (by omega)]
      have Hv := Lib.hid hv'
      have HO := Lib.hid hO
      have HU := Lib.hid hu128
      clear hv hv' hO hu128 hl
      have hcs : i = 1 ∨ i = 2 ∨ i = 3 ∨ i = 4 ∨ i = 5 ∨ i = 6 ∨ i = 7 ∨ i = 8 := by omega
      rcases hcs with rfl | rfl | rfl | rfl | rfl | rfl | rfl | rfl
      ·obtain ⟨q, hq⟩ : ∃ q, q = u / 256 ^ 0 := ⟨_, rfl⟩
       have hqs : q < 128 := by
        have := HU.out
        rw [hq]
        omega
       have hx : (beN (u : Int) 1)[0]? = some (UInt8.ofNat q) := by
        show some (bt ((u : Int) / 256 ^ 0)) = _
        rw [show (u : Int) / 256 ^ 0 = (q : Int) by rw [hq]; simp, ← bt_u, show q % 256 = q by omega]
       obtain ⟨c0, f0⟩ := own_get (own_len HO.out.1 (by simp [beN_length])) (byteV_some hx)
       rw [show (((UInt8.ofNat q).toNat : Nat) : Int) = (q : Int) by rw [UInt8.toNat_ofNat']; omega] at c0
       have hor : bits .or .u8 (q : Int) 0 = ((q + 0 : Nat) : Int) := or_mask1 q hqs
       have hnot : bits BinOp.xor IntKind.u8 (if IntKind.u8.signed = true then -1 else IntKind.u8.max) 255 = 0 := by decide
       have hO2 := OwnB.set (x := q + 0) (l := beN (u : Int) 1) HO.out (k := 0) (by simp [beN_length]) (by omega)
       have HF : Hid (OwnB wp (wr.setCell ⟨wp.heap.size, 0, none⟩ (.int .u8 ((q + 0 : Nat) : Int))) (.slice (some ⟨wp.heap.size, 0, none⟩) 1 1) (vintU u)) := Lib.hid (by
        have e := Hv.out 1 rfl
        rw [show u / 256 ^ (1 - 1) = q from hq.symm, show vmask 1 = 0 from rfl, ← bt_u, show (q + 0) % 256 = q + 0 by omega] at e
        rw [e]
        exact hO2)
       clear hx hO2 hq hqs
       go_wp2_with fail
       go_region
       go_wp2_with fail
       go_ret
       exact ⟨_, rfl, HF.out.1, HF.out.2.drew⟩
      ·obtain ⟨q, hq⟩ : ∃ q, q = u / 256 ^ 1 := ⟨_, rfl⟩
       have hqs : q < 64 := by
        have := HU.out
        rw [hq]
        omega
       have hx : (beN (u : Int) 2)[0]? = some (UInt8.ofNat q) := by
        show some (bt ((u : Int) / 256 ^ 1)) = _
        rw [show (u : Int) / 256 ^ 1 = (q : Int) by rw [hq]; simp, ← bt_u, show q % 256 = q by omega]
       obtain ⟨c0, f0⟩ := own_get (own_len HO.out.1 (by simp [beN_length])) (byteV_some hx)
       rw [show (((UInt8.ofNat q).toNat : Nat) : Int) = (q : Int) by rw [UInt8.toNat_ofNat']; omega] at c0
       have hor : bits .or .u8 (q : Int) 128 = ((q + 128 : Nat) : Int) := or_mask2 q hqs
       have hnot : bits BinOp.xor IntKind.u8 (if IntKind.u8.signed = true then -1 else IntKind.u8.max) 127 = 128 := by decide
       have hO2 := OwnB.set (x := q + 128) (l := beN (u : Int) 2) HO.out (k := 0) (by simp [beN_length]) (by omega)
       have HF : Hid (OwnB wp (wr.setCell ⟨wp.heap.size, 0, none⟩ (.int .u8 ((q + 128 : Nat) : Int))) (.slice (some ⟨wp.heap.size, 0, none⟩) 2 2) (vintU u)) := Lib.hid (by
        have e := Hv.out 2 rfl
        rw [show u / 256 ^ (2 - 1) = q from hq.symm, show vmask 2 = 128 from rfl, ← bt_u, show (q + 128) % 256 = q + 128 by omega] at e
        rw [e]
        exact hO2)
       clear hx hO2 hq hqs
       go_wp2_with fail
       go_region
       go_wp2_with fail
       go_ret
       exact ⟨_, rfl, HF.out.1, HF.out.2.drew⟩
      ·obtain ⟨q, hq⟩ : ∃ q, q = u / 256 ^ 2 := ⟨_, rfl⟩
       have hqs : q < 32 := by
        have := HU.out
        rw [hq]
        omega
       have hx : (beN (u : Int) 3)[0]? = some (UInt8.ofNat q) := by
        show some (bt ((u : Int) / 256 ^ 2)) = _
        rw [show (u : Int) / 256 ^ 2 = (q : Int) by rw [hq]; simp, ← bt_u, show q % 256 = q by omega]
       obtain ⟨c0, f0⟩ := own_get (own_len HO.out.1 (by simp [beN_length])) (byteV_some hx)
       rw [show (((UInt8.ofNat q).toNat : Nat) : Int) = (q : Int) by rw [UInt8.toNat_ofNat']; omega] at c0
       have hor : bits .or .u8 (q : Int) 192 = ((q + 192 : Nat) : Int) := or_mask3 q hqs
       have hnot : bits BinOp.xor IntKind.u8 (if IntKind.u8.signed = true then -1 else IntKind.u8.max) 63 = 192 := by decide
       have hO2 := OwnB.set (x := q + 192) (l := beN (u : Int) 3) HO.out (k := 0) (by simp [beN_length]) (by omega)
       have HF : Hid (OwnB wp (wr.setCell ⟨wp.heap.size, 0, none⟩ (.int .u8 ((q + 192 : Nat) : Int))) (.slice (some ⟨wp.heap.size, 0, none⟩) 3 3) (vintU u)) := Lib.hid (by
        have e := Hv.out 3 rfl
        rw [show u / 256 ^ (3 - 1) = q from hq.symm, show vmask 3 = 192 from rfl, ← bt_u, show (q + 192) % 256 = q + 192 by omega] at e
        rw [e]
        exact hO2)
       clear hx hO2 hq hqs
       go_wp2_with fail
       go_region
       go_wp2_with fail
       go_ret
       exact ⟨_, rfl, HF.out.1, HF.out.2.drew⟩
      ·obtain ⟨q, hq⟩ : ∃ q, q = u / 256 ^ 3 := ⟨_, rfl⟩
       have hqs : q < 16 := by
        have := HU.out
        rw [hq]
        omega
       have hx : (beN (u : Int) 4)[0]? = some (UInt8.ofNat q) := by
        show some (bt ((u : Int) / 256 ^ 3)) = _
        rw [show (u : Int) / 256 ^ 3 = (q : Int) by rw [hq]; simp, ← bt_u, show q % 256 = q by omega]
       obtain ⟨c0, f0⟩ := own_get (own_len HO.out.1 (by simp [beN_length])) (byteV_some hx)
       rw [show (((UInt8.ofNat q).toNat : Nat) : Int) = (q : Int) by rw [UInt8.toNat_ofNat']; omega] at c0
       have hor : bits .or .u8 (q : Int) 224 = ((q + 224 : Nat) : Int) := or_mask4 q hqs
       have hnot : bits BinOp.xor IntKind.u8 (if IntKind.u8.signed = true then -1 else IntKind.u8.max) 31 = 224 := by decide
       have hO2 := OwnB.set (x := q + 224) (l := beN (u : Int) 4) HO.out (k := 0) (by simp [beN_length]) (by omega)
       have HF : Hid (OwnB wp (wr.setCell ⟨wp.heap.size, 0, none⟩ (.int .u8 ((q + 224 : Nat) : Int))) (.slice (some ⟨wp.heap.size, 0, none⟩) 4 4) (vintU u)) := Lib.hid (by
        have e := Hv.out 4 rfl
        rw [show u / 256 ^ (4 - 1) = q from hq.symm, show vmask 4 = 224 from rfl, ← bt_u, show (q + 224) % 256 = q + 224 by omega] at e
        rw [e]
        exact hO2)
       clear hx hO2 hq hqs
       go_wp2_with fail
       go_region
       go_wp2_with fail
       go_ret
       exact ⟨_, rfl, HF.out.1, HF.out.2.drew⟩
      ·obtain ⟨q, hq⟩ : ∃ q, q = u / 256 ^ 4 := ⟨_, rfl⟩
       have hqs : q < 8 := by
        have := HU.out
        rw [hq]
        omega
       have hx : (beN (u : Int) 5)[0]? = some (UInt8.ofNat q) := by
        show some (bt ((u : Int) / 256 ^ 4)) = _
        rw [show (u : Int) / 256 ^ 4 = (q : Int) by rw [hq]; simp, ← bt_u, show q % 256 = q by omega]
       obtain ⟨c0, f0⟩ := own_get (own_len HO.out.1 (by simp [beN_length])) (byteV_some hx)
       rw [show (((UInt8.ofNat q).toNat : Nat) : Int) = (q : Int) by rw [UInt8.toNat_ofNat']; omega] at c0
       have hor : bits .or .u8 (q : Int) 240 = ((q + 240 : Nat) : Int) := or_mask5 q hqs
       have hnot : bits BinOp.xor IntKind.u8 (if IntKind.u8.signed = true then -1 else IntKind.u8.max) 15 = 240 := by decide
       have hO2 := OwnB.set (x := q + 240) (l := beN (u : Int) 5) HO.out (k := 0) (by simp [beN_length]) (by omega)
       have HF : Hid (OwnB wp (wr.setCell ⟨wp.heap.size, 0, none⟩ (.int .u8 ((q + 240 : Nat) : Int))) (.slice (some ⟨wp.heap.size, 0, none⟩) 5 5) (vintU u)) := Lib.hid (by
        have e := Hv.out 5 rfl
        rw [show u / 256 ^ (5 - 1) = q from hq.symm, show vmask 5 = 240 from rfl, ← bt_u, show (q + 240) % 256 = q + 240 by omega] at e
        rw [e]
        exact hO2)
       clear hx hO2 hq hqs
       go_wp2_with fail
       go_region
       go_wp2_with fail
       go_ret
       exact ⟨_, rfl, HF.out.1, HF.out.2.drew⟩
      ·obtain ⟨q, hq⟩ : ∃ q, q = u / 256 ^ 5 := ⟨_, rfl⟩
       have hqs : q < 4 := by
        have := HU.out
        rw [hq]
        omega
       have hx : (beN (u : Int) 6)[0]? = some (UInt8.ofNat q) := by
        show some (bt ((u : Int) / 256 ^ 5)) = _
        rw [show (u : Int) / 256 ^ 5 = (q : Int) by rw [hq]; simp, ← bt_u, show q % 256 = q by omega]
       obtain ⟨c0, f0⟩ := own_get (own_len HO.out.1 (by simp [beN_length])) (byteV_some hx)
       rw [show (((UInt8.ofNat q).toNat : Nat) : Int) = (q : Int) by rw [UInt8.toNat_ofNat']; omega] at c0
       have hor : bits .or .u8 (q : Int) 248 = ((q + 248 : Nat) : Int) := or_mask6 q hqs
       have hnot : bits BinOp.xor IntKind.u8 (if IntKind.u8.signed = true then -1 else IntKind.u8.max) 7 = 248 := by decide
       have hO2 := OwnB.set (x := q + 248) (l := beN (u : Int) 6) HO.out (k := 0) (by simp [beN_length]) (by omega)
       have HF : Hid (OwnB wp (wr.setCell ⟨wp.heap.size, 0, none⟩ (.int .u8 ((q + 248 : Nat) : Int))) (.slice (some ⟨wp.heap.size, 0, none⟩) 6 6) (vintU u)) := Lib.hid (by
        have e := Hv.out 6 rfl
        rw [show u / 256 ^ (6 - 1) = q from hq.symm, show vmask 6 = 248 from rfl, ← bt_u, show (q + 248) % 256 = q + 248 by omega] at e
        rw [e]
        exact hO2)
       clear hx hO2 hq hqs
       go_wp2_with fail
       go_region
       go_wp2_with fail
       go_ret
       exact ⟨_, rfl, HF.out.1, HF.out.2.drew⟩
      ·obtain ⟨q, hq⟩ : ∃ q, q = u / 256 ^ 6 := ⟨_, rfl⟩
       have hqs : q < 2 := by
        have := HU.out
        rw [hq]
        omega
       have hx : (beN (u : Int) 7)[0]? = some (UInt8.ofNat q) := by
        show some (bt ((u : Int) / 256 ^ 6)) = _
        rw [show (u : Int) / 256 ^ 6 = (q : Int) by rw [hq]; simp, ← bt_u, show q % 256 = q by omega]
       obtain ⟨c0, f0⟩ := own_get (own_len HO.out.1 (by simp [beN_length])) (byteV_some hx)
       rw [show (((UInt8.ofNat q).toNat : Nat) : Int) = (q : Int) by rw [UInt8.toNat_ofNat']; omega] at c0
       have hor : bits .or .u8 (q : Int) 252 = ((q + 252 : Nat) : Int) := or_mask7 q hqs
       have hnot : bits BinOp.xor IntKind.u8 (if IntKind.u8.signed = true then -1 else IntKind.u8.max) 3 = 252 := by decide
       have hO2 := OwnB.set (x := q + 252) (l := beN (u : Int) 7) HO.out (k := 0) (by simp [beN_length]) (by omega)
       have HF : Hid (OwnB wp (wr.setCell ⟨wp.heap.size, 0, none⟩ (.int .u8 ((q + 252 : Nat) : Int))) (.slice (some ⟨wp.heap.size, 0, none⟩) 7 7) (vintU u)) := Lib.hid (by
        have e := Hv.out 7 rfl
        rw [show u / 256 ^ (7 - 1) = q from hq.symm, show vmask 7 = 252 from rfl, ← bt_u, show (q + 252) % 256 = q + 252 by omega] at e
        rw [e]
        exact hO2)
       clear hx hO2 hq hqs
       go_wp2_with fail
       go_region
       go_wp2_with fail
       go_ret
       exact ⟨_, rfl, HF.out.1, HF.out.2.drew⟩
      ·obtain ⟨q, hq⟩ : ∃ q, q = u / 256 ^ 7 := ⟨_, rfl⟩
       have hqs : q < 1 := by
        have := HU.out
        rw [hq]
        omega
       have hx : (beN (u : Int) 8)[0]? = some (UInt8.ofNat q) := by
        show some (bt ((u : Int) / 256 ^ 7)) = _
        rw [show (u : Int) / 256 ^ 7 = (q : Int) by rw [hq]; simp, ← bt_u, show q % 256 = q by omega]
       obtain ⟨c0, f0⟩ := own_get (own_len HO.out.1 (by simp [beN_length])) (byteV_some hx)
       rw [show (((UInt8.ofNat q).toNat : Nat) : Int) = (q : Int) by rw [UInt8.toNat_ofNat']; omega] at c0
       have hor : bits .or .u8 (q : Int) 254 = ((q + 254 : Nat) : Int) := or_mask8 q hqs
       have hnot : bits BinOp.xor IntKind.u8 (if IntKind.u8.signed = true then -1 else IntKind.u8.max) 1 = 254 := by decide
       have hO2 := OwnB.set (x := q + 254) (l := beN (u : Int) 8) HO.out (k := 0) (by simp [beN_length]) (by omega)
       have HF : Hid (OwnB wp (wr.setCell ⟨wp.heap.size, 0, none⟩ (.int .u8 ((q + 254 : Nat) : Int))) (.slice (some ⟨wp.heap.size, 0, none⟩) 8 8) (vintU u)) := Lib.hid (by
        have e := Hv.out 8 rfl
        rw [show u / 256 ^ (8 - 1) = q from hq.symm, show vmask 8 = 254 from rfl, ← bt_u, show (q + 254) % 256 = q + 254 by omega] at e
        rw [e]
        exact hO2)
       clear hx hO2 hq hqs
       go_wp2_with fail
       go_region
       go_wp2_with fail
       go_ret
       exact ⟨_, rfl, HF.out.1, HF.out.2.drew⟩
   ·have hz' : ((u : Int) / 2 ^ (7 * k) != 0) = true := by
     have : (u : Int) / 2 ^ (7 * k) = ((u / 2 ^ (7 * k) : Nat) : Int) := by simp
     rw [this]
     simp only [bne_iff_ne, ne_eq]
     omega
    go_wp2_with fail
    go_roundw
    case rel => exact ⟨k + 1, by go_num, by omega, by omega, .inr (by
     rw [Nat.add_sub_cancel, ← hp]
     rcases Nat.lt_or_ge u (2 ^ (7 * k)) with h | h
     ·exact (hz (Nat.div_eq_of_lt h)).elim
     ·exact h), by first | trivial | rfl⟩
    case measure => simp [intOf]; omega
  ·obtain rfl : k = 9 := by omega
   have hv : vsz u = 9 := vsz_of u 9 (by omega) (by omega) (.inr (by omega)) (.inl rfl)
   clear hlo
   have HV : Hid (vintU u = 255 :: beN u 8) := Lib.hid (by unfold vintU; rw [hv, if_pos rfl])
   clear hv
   go_wp2_with fail
   obtain ⟨wp, hwp⟩ : ∃ x, x = wr := ⟨wr, rfl⟩
   subst hwp
   have HO : Hid (OwnB wp (wp.alloc (Obj.cells #[Value.int IntKind.u8 255] 5)) (.slice (some ⟨wp.heap.size, 0, none⟩) 1 1) [255]) :=
    Lib.hid ⟨⟨rfl, .inr ⟨wp.heap.size, 1, #[.int .u8 255], rfl, Nat.le_refl _, Blk.new wp 5 _, Nat.le_refl _, by decide, rfl, rfl⟩⟩, (Ext.refl wp).alloc _⟩
   go_loopw [5, 6] (fun o v wr => ∃ (j : Nat) (i : Int) (c : List UInt8), j ≤ 8 ∧ i + 1 = j ∧ v = .int .i64 i ∧ c.length + j = 9 ∧ c ++ beN u j = 255 :: beN u 8 ∧ OwnB wp wr o c) (fun _ v _ => (intOf v + 1).toNat)
   case atStart => exact ⟨8, _, [255], Nat.le_refl _, by omega, rfl, rfl, rfl, HO.out⟩
   case round =>
    obtain ⟨j, i, c, hj, hi, rfl, hcl, hc, hO⟩ := hrel
    obtain ⟨g, cap, rfl, hg⟩ := own_form1 hO.1 (by omega)
    have HOc := Lib.hid hO
    have Hc := Lib.hid hc
    have Hcl := Lib.hid hcl
    clear hO hc
    cases j with
    |zero =>
     obtain rfl : i = -1 := by omega
     go_wp2_with fail
     go_ret
     have h : c = 255 :: beN u 8 := by
      have := Hc.out
      rwa [show beN (u : Int) 0 = [] from rfl, List.append_nil] at this
     exact ⟨_, rfl, by rw [HV.out, ← h]; exact HOc.out⟩
    |succ j =>
     obtain rfl : i = (j : Int) := by omega
     have hsh := shr_u64 u (8 * j) (by omega)
     have e8 : ((8 * j : Nat) : Int) = 8 * (j : Int) := by omega
     rw [e8] at hsh
     have hw8 : IntKind.u8.wrap ((u : Int) / 2 ^ (8 * j)) = (u : Int) / 2 ^ (8 * j) % 256 := IntKind.wrap_u8 _
     have hc9 : c.length ≤ 9 := by omega
     clear hcl
     go_wp2_with (at_builtin; refine wpList_append_lies _ rfl _ _ _ rfl wp.heap.size 5 i0 _ 1 1 Tryz.underlying27 hi0 hz0 hz1 hz2 rfl (by omega) (.slice (some ⟨g, 0, none⟩) c.length cap) c.length (c.map byteV) rfl (HOc.out.1.alloc _) ⟨wr.heap.size, 0, none⟩ 1 1 [.int .u8 ((u : Int) / 2 ^ (8 * j) % 256)] rfl rfl (World.news_of_block (heap_alloc_new wr _)) (by simp [Value.oneCell']) (by omega) (by unfold maxLen; omega) (by omega) (by have := HOc.out.2.size; simp; omega) (wr.heap.size + 1) (by simp) ?_; intro gg cap1 w3 hown3 hgrow hat hltg)
     go_roundw
     case rel =>
      refine ⟨j, (j : Int) - 1, c ++ [bt ((u : Int) / 256 ^ j)], by omega, by omega, rfl, by have := Hcl.out; simp; omega, ?_, ?_, ((HOc.out.2).alloc _).grown hgrow (fun k hk => own_ge HOc.out.1 hk)⟩
      ·have := Hc.out
       rw [← this]
       simp [beN]
      ·rw [List.map_append, List.length_append]
       have e : [bt ((u : Int) / 256 ^ j)].map byteV = [.int .u8 ((u : Int) / 2 ^ (8 * j) % 256)] := by
        simp only [List.map_cons, List.map_nil, byteV_bt]
        rw [Int.pow_mul]
        rfl
       rw [e]
       exact hown3
     case measure => simp [intOf]
end Go.Proofs.YtammjbmfiakbnaaGreatDoor
namespace Go.Proofs.YtammjbmfiakbnaaGreatDoor
open Go.RowKit
/-- Binary's contract. -/
def BinP (n : Nat) : Prop := ∀ (m m2 : Nat) (w : World) (tv : Value) (T : Ty) (vs : List Value) (V : Vl), TyAt (fun _ => False) m w tv T → VlAt (fun _ => False) m2 w vs V → Good n T → GoodV n T V →
 Calls Tryz.prog 14 #[tv, .agg vs.toArray] w fun e w' => ∃ r, e = .returned r ∧ OwnB w w' r (enc n T V)
theorem OwnB.frame {w0 w w' : World} {r : Value} {l : List UInt8} {p g g' : Nat} (h : OwnB w0 w r l) (hf : FrameW w w' p g g') (hp : p < w0.heap.size) (hg : g < w0.heap.size) : Bytes w' r l := by
 obtain ⟨⟨h1, h2⟩, _⟩ := h
 refine own_bytes (b0 := w0.heap.size) ⟨h1, ?_⟩
 rcases h2 with h2 | ⟨gg, cap, cur, hv, hb, hgg, q⟩
 ·exact .inl h2
 ·refine .inr ⟨gg, cap, cur, hv, hb, ?_, q⟩
  rw [hf.rest gg ?_ (by omega) (by omega)]
  ·exact hgg
  ·rcases Nat.lt_or_ge gg w.heap.size with hl | hge
   ·exact hl
   ·rw [Array.getElem?_eq_none hge] at hgg; cases hgg
set_option maxRecDepth 100000 in
set_option maxHeartbeats 2000000 in
theorem item_any (n : Nat) (hn5 : n ≤ 5) (hb : BinP n) (m m2 : Nat) (w : World) (b0 p g : Nat) (l : List UInt8) (tv : Value) (T : Ty) (vs : List Value) (V : Vl) (hl : l.length ≤ 109951162777) (hw : WrG w b0 p g l) (hb0 : b0 ≤ w.heap.size)
  (hT : TyAt (fun _ => False) m w tv T) (hV : VlAt (fun _ => False) m2 w vs V) (hG : Good n T) (hg : V.sc.nul = true ∨ GoodV n T V) :
  Calls Tryz.prog 34 #[.pointer (some ⟨p, 0, none⟩), tv, .agg vs.toArray] w fun e w' => e = .returned (.tuple #[]) ∧ ∃ g', WrG w' b0 p g' (l ++ itemB V.sc.nul (enc n T V)) ∧ FrameW w w' p g g' := by
 obtain ⟨-, hpg, hpl, hgl⟩ := hw.row
 obtain ⟨B, bc, B', bc', rfl⟩ := hT.form
 obtain ⟨A, c, A1, c1, A2, c2, rfl, hs⟩ := hV.form
 have hgg : V.sc.nul = false → GoodV n T V := fun h => hg.resolve_left (by rw [h]; exact Bool.false_ne_true)
 have HT := Lib.hid hT
 have HV := Lib.hid hV
 have HW := Lib.hid hw
 have HG := Lib.hid hG
 have Hgg := Lib.hid hgg
 have Hb := Lib.hid hb
 clear hT hV hw hG hg hgg hb hs
 simp only [vcells] at HV ⊢
 go_enter Tryz.func34, Tryz.ntmps34
 cases hnul : V.sc.nul with
 |true =>
  rw [hnul] at HV
  have h1 := put_x (-1) 4 (by omega) b0 p g l (by omega) ((w.alloc (.cells #[.int .i64 T.kind, .slice B T.kids.length bc, .slice B' T.names.length bc'] 35)).alloc (.cells #[.bool true, .int .i64 V.sc.n, .float .f64 V.sc.f, .string V.sc.text, .slice A V.sc.data.length c, .int .i64 V.sc.scale, .int .i64 V.sc.months, .int .i64 V.sc.days, .int .i64 V.sc.nanos, .slice A1 V.keys.length c1, .slice A2 V.kids.length c2] 39)) (HW.out.ext (((Ext.refl w).alloc _).alloc _))
  have H1 := Lib.hid h1
  clear h1
  go_wp2_with fail
  refine H1.out.mono ?_
  rintro e w1 ⟨rfl, g1, hw1, he1⟩
  have HW1 := Lib.hid hw1
  clear hw1
  go_wp2_with fail
  exact bodyPost_ret (results_none rfl _ _ _) rfl ⟨rfl, g1, by simpa [itemB] using HW1.out, (FrameW.of_ext (((Ext.refl w).alloc _).alloc _) p g).trans he1⟩
 |false =>
  rw [hnul] at HV
  have Hnul := Lib.hid hnul
  go_wp2_with fail
  generalize hW : World.alloc (World.alloc w _) _ = W
  have h0 : Ext w W := by
   rw [← hW]
   exact ((Ext.refl w).alloc _).alloc _
  clear hW
  have hgv := Hgg.out hnul
  have hlen : (enc n T V).length ≤ bnd n := enc_len n T V HG.out hgv
  have hbn : bnd n < 2147483648 := Nat.lt_of_le_of_lt (bnd_mono hn5) bnd5
  have hcall := Hb.out m m2 W _ T _ V (TyAt.onx (Onx.of_ext h0 _) _ _ _ HT.out) (VlAt.onx (Onx.of_ext h0 _) _ _ _ HV.out) HG.out hgv
  refine hcall.mono ?_
  clear hcall
  rintro e w2 ⟨r, rfl, hr⟩
  obtain ⟨ra, rc, rfl, hrc⟩ := ownB_slice hr.1
  have hx : Ext w w2 := h0.trans hr.2
  have h1 := put_x ((enc n T V).length : Int) 4 (by omega) b0 p g l (by omega) w2 (HW.out.ext hx)
  have H1 := Lib.hid h1
  have Hr := Lib.hid hr
  have Hx := Lib.hid hx
  have H0 := Lib.hid h0
  clear h1 hr hx h0 hgv
  go_wp2_with fail
  refine H1.out.mono ?_
  rintro e w3 ⟨rfl, g3, hw3, he3⟩
  have hb3 : b0 ≤ w2.heap.size := Nat.le_trans hb0 Hx.out.size
  have h2 := bytes_x b0 p g3 _ (enc n T V) ra (enc n T V).length rc (by simp [beN_length]; omega) (by omega) w3 hw3 (Nat.le_trans hb3 he3.size) (Hr.out.frame he3 (Nat.lt_of_lt_of_le hpl H0.out.size) (Nat.lt_of_lt_of_le hgl H0.out.size))
  have H2 := Lib.hid h2
  have He3 := Lib.hid he3
  clear h2 hw3 he3
  go_wp2_with fail
  refine H2.out.mono ?_
  rintro e w4 ⟨rfl, g4, hw4, he4⟩
  have Hw4 := Lib.hid hw4
  clear hw4
  go_wp2_with fail
  go_end0
  exact ⟨rfl, g4, by simpa [itemB] using Hw4.out, ((FrameW.of_ext Hx.out p g).trans He3.out).trans he4⟩
theorem Blk.frame {w w' : World} {k p g g' : Nat} {t : TypeId} {cs : Array Value} (h : Blk w k t cs) (hf : FrameW w w' p g g') (hp : k ≠ p) (hg : k ≠ g) : Blk w' k t cs := (hf.rest k h.lt hp hg).trans h
theorem wr_fin {w W w' : World} {p g g' : Nat} {l : List UInt8} (hw : WrG w' w.heap.size p g' l) (hf : FrameW W w' p g g') (he : Ext w W) (hp : w.heap.size ≤ p) (hg : w.heap.size ≤ g) :
  ∃ c, w'.cell? ⟨p, 0, none⟩ = some (.slice (some ⟨g', 0, none⟩) l.length c) ∧ OwnB w w' (.slice (some ⟨g', 0, none⟩) l.length c) l := by
 obtain ⟨h0, c, hb, ho⟩ := hw
 exact ⟨c, hb.c1.1, ho, Below.trans he (hf.below hp hg he.size)⟩
theorem beN_wrap (f : Int) : beN (wrap64 f) 8 = beN f 8 := by
 have key : ∀ j, j ≤ 7 → bt (wrap64 f / 256 ^ j) = bt (f / 256 ^ j) := fun j hj => by
  unfold bt
  congr 2
  rw [← IntWalk.i64_left, IntKind.wrap_i64]
  have : j = 0 ∨ j = 1 ∨ j = 2 ∨ j = 3 ∨ j = 4 ∨ j = 5 ∨ j = 6 ∨ j = 7 := by omega
  rcases this with rfl | rfl | rfl | rfl | rfl | rfl | rfl | rfl <;> simp <;> omega
 simp only [beN]
 rw [key 7 (by omega), key 6 (by omega), key 5 (by omega), key 4 (by omega), key 3 (by omega), key 2 (by omega), key 1 (by omega), key 0 (by omega)]
/-- '[]byte(s)'. -/
theorem conv_str (s : ByteArray) (W : World) : ∃ c W1, (convert 9 27 (.string s)).run Tryz.prog W = .ok (.slice (some ⟨W.heap.size, 0, none⟩) s.size c) W1 ∧ Ext W W1 ∧ Out (chs s) (.slice (some ⟨W.heap.size, 0, none⟩) s.size c) W1 := by
 refine ⟨_, _, Lib.run_convert_string_bytes W 9 27 5 s Tryz.underlying9 Tryz.underlying27 Tryz.underlying5, ⟨rfl, rfl, rfl, by rw [Lib.bytesWorld_size]; omega, fun k hk => Lib.bytesWorld_at_old W 5 s k hk⟩, ?_⟩
 refine ⟨W.heap.size, 0, _, _, 5, _, rfl, ?_, Lib.bytesWorld_at_new W 5 s, by decide, by decide, fun j u hu => ?_⟩
 ·exact grownCap_ge W s.size 0 5
 ·rw [List.getElem?_map] at hu
  have hj : j < s.size := by
   rcases Nat.lt_or_ge j s.size with h | h
   ·exact h
   ·rw [List.getElem?_eq_none (by simpa using h)] at hu
    cases hu
  rw [List.getElem?_eq_getElem (by simpa using hj)] at hu
  simp only [Option.map_some, Option.some.injEq] at hu
  subst hu
  simp [Lib.bytesCells, Array.getElem?_append, hj, byteV]
set_option maxRecDepth 100000 in
set_option maxHeartbeats 8000000 in
theorem bin_leaf (n m m2 : Nat) (w : World) (tv : Value) (T : Ty) (vs : List Value) (V : Vl) (hT : TyAt (fun _ => False) m w tv T) (hV : VlAt (fun _ => False) m2 w vs V) (hG : Good (n + 1) T) (hg : GoodV (n + 1) T V) (hk : T.kind < 32) :
  Calls Tryz.prog 14 #[tv, .agg vs.toArray] w fun e w' => ∃ r, e = .returned r ∧ OwnB w w' r (encS T.kind V.sc) := by
 obtain ⟨B, bc, B', bc', rfl⟩ := hT.form
 cases m2 with
 |zero => exact hV.elim
 |succ m2 =>
 obtain ⟨A, c, A1, c1, A2, c2, rfl, q1, q2, q3, q4, q5, q6, hs, hd, -, -⟩ := hV
 obtain ⟨-, -, hg⟩ := hg
 have hgs : GoodS T.kind V.sc := by
  rcases hg with ⟨_, _, _, h⟩ | ⟨h, _⟩ | ⟨h, _⟩ | ⟨h, _⟩
  ·exact h
  all_goals omega
 have Hd := Lib.hid hd
 have Hs := Lib.hid hs
 have Hgs := Lib.hid hgs
 have hlo := kinds_lo hG.2 hk
 have hks : T.kind = 1 ∨ T.kind = 2 ∨ T.kind = 3 ∨ T.kind = 4 ∨ T.kind = 5 ∨ T.kind = 6 ∨ T.kind = 7 ∨ T.kind = 8 ∨ T.kind = 9 ∨ T.kind = 11 ∨ T.kind = 12 ∨ T.kind = 13 ∨ T.kind = 14 ∨ T.kind = 15 ∨ T.kind = 16 ∨ T.kind = 17 ∨ T.kind = 18 ∨ T.kind = 19 ∨ T.kind = 20 ∨ T.kind = 21 := by omega
 have Hks := Lib.hid hks
 clear hT hs hG hd hg hgs hlo hk hks
 simp only [vcells]
 unfold maxLen at q2 q4 q6
 go_enter Tryz.func14, Tryz.ntmps14
 go_upto_region 2 with fail
 generalize hW : World.alloc (World.alloc (World.alloc (World.alloc w _) _) _) _ = W
 have h0 : Blk W w.heap.size 35 #[.int .i64 T.kind, .slice B T.kids.length bc, .slice B' T.names.length bc'] ∧ Blk W (w.heap.size + 1) 39 #[.bool V.sc.nul, .int .i64 V.sc.n, .float .f64 V.sc.f, .string V.sc.text, .slice A V.sc.data.length c, .int .i64 V.sc.scale, .int .i64 V.sc.months, .int .i64 V.sc.days, .int .i64 V.sc.nanos, .slice A1 V.keys.length c1, .slice A2 V.kids.length c2] ∧
   WrG W w.heap.size (w.heap.size + 1 + 1 + 1) (w.heap.size + 1 + 1) [] ∧ Ext w W := by
  rw [← hW]
  exact ⟨(((Blk.new w 35 _).alloc _).alloc _).alloc _, ((Blk.new' _ _ 39 _ (by simp)).alloc _).alloc _, ⟨by omega, 0, Blk.new' _ _ 70 _ (by simp), ⟨rfl, .inr ⟨w.heap.size + 1 + 1, 0, #[], rfl, by omega, (Blk.new' _ _ 5 _ (by simp)).alloc _, Nat.le_refl _, by decide, rfl, rfl⟩⟩⟩, ((((Ext.refl w).alloc _).alloc _).alloc _).alloc _⟩
 clear hW
 obtain ⟨hb1, hb2, hw0, hE⟩ := h0
 obtain ⟨b0, b1, b2⟩ := hb1.c3
 obtain ⟨d0, d1, d2, d3, d4, d5, d6, d7, d8, d9, d10⟩ := hb2.c11
 have hlt := hw0.row.2.2.1
 have HW0 := Lib.hid hw0
 have HE := Lib.hid hE
 have HB2 := Lib.hid hb2
 clear hb1 hb2 hw0 hE
 rcases Hks.out with h | h | h | h | h | h | h | h | h | h | h | h | h | h | h | h | h | h | h | h
 ·obtain ⟨sc, W1, hrun, hE1, hout⟩ := conv_str V.sc.text W
  have hle := hE1.size
  have h1 := bytes_x w.heap.size (w.heap.size + 1 + 1 + 1) (w.heap.size + 1 + 1) [] (chs V.sc.text) (some ⟨W.heap.size, 0, none⟩) V.sc.text.size sc (by simp) (by have := Hgs.out.1 (by omega); rw [chs_len]; omega) W1 (HW0.out.ext hE1) (by omega) hout.bytes
  have H1 := Lib.hid h1
  have HE1 := Lib.hid hE1
  clear h1 hE1 hout
  go_wp2_with fail
  refine H1.out.mono ?_
  rintro e w1 ⟨rfl, g1, hwa, hfa⟩
  have HWa := Lib.hid hwa
  have HFa := Lib.hid ((FrameW.of_ext HE1.out (w.heap.size + 1 + 1 + 1) (w.heap.size + 1 + 1)).trans hfa)
  clear hwa hfa
  have hwl := HWa.out
  simp only [List.nil_append] at hwl
  have e : encS T.kind V.sc = chs V.sc.text := by rw [h]; simp [encS]
  rw [← e] at hwl
  obtain ⟨L, hL⟩ : ∃ L, L = encS T.kind V.sc := ⟨_, rfl⟩
  rw [← hL] at hwl
  have HL := Lib.hid hL
  clear e hL
  obtain ⟨cc, hcell, hown⟩ := wr_fin hwl HFa.out HE.out (by omega) (by omega)
  have Hown := Lib.hid hown
  clear hown hwl
  go_wp2_with fail
  go_ret
  refine ⟨_, rfl, ?_⟩
  rw [← HL.out]
  exact Hown.out
 ·have h1 := put_x (V.sc.n) 8 (by omega) w.heap.size (w.heap.size + 1 + 1 + 1) (w.heap.size + 1 + 1) [] (by simp) W HW0.out
  have H1 := Lib.hid h1
  clear h1
  go_wp2_with fail
  refine H1.out.mono ?_
  rintro e w1 ⟨rfl, g1, hwa, hfa⟩
  have HWa := Lib.hid hwa
  have HFa := Lib.hid hfa
  clear hwa hfa
  have hwl := HWa.out
  simp only [List.nil_append] at hwl
  have e : encS T.kind V.sc = beN V.sc.n 8 := by rw [h]; simp [encS]
  rw [← e] at hwl
  obtain ⟨L, hL⟩ : ∃ L, L = encS T.kind V.sc := ⟨_, rfl⟩
  rw [← hL] at hwl
  have HL := Lib.hid hL
  clear e hL
  obtain ⟨cc, hcell, hown⟩ := wr_fin hwl HFa.out HE.out (by omega) (by omega)
  have Hown := Lib.hid hown
  clear hown hwl
  go_wp2_with fail
  go_ret
  refine ⟨_, rfl, ?_⟩
  rw [← HL.out]
  exact Hown.out
 ·have hbytes : Bytes W (.slice A V.sc.data.length c) V.sc.data := ⟨A, c, rfl, by omega, fun hn => by
   obtain ⟨b, o, e, hb, -, hc⟩ := Hd.out hn
   exact ⟨b, o, e, Nat.lt_of_lt_of_le hb HE.out.size, fun j u hu => HE.out.cellS (hc j u hu)⟩⟩
  have h1 := bytes_x w.heap.size (w.heap.size + 1 + 1 + 1) (w.heap.size + 1 + 1) [] V.sc.data A V.sc.data.length c (by simp) (by have := Hgs.out.2.1 h; omega) W HW0.out (by omega) hbytes
  have H1 := Lib.hid h1
  clear h1 hbytes
  go_wp2_with fail
  refine H1.out.mono ?_
  rintro e w1 ⟨rfl, g1, hwa, hfa⟩
  have HWa := Lib.hid hwa
  have HFa := Lib.hid hfa
  clear hwa hfa
  have hwl := HWa.out
  simp only [List.nil_append] at hwl
  have e : encS T.kind V.sc = V.sc.data := by rw [h]; simp [encS]
  rw [← e] at hwl
  obtain ⟨L, hL⟩ : ∃ L, L = encS T.kind V.sc := ⟨_, rfl⟩
  rw [← hL] at hwl
  have HL := Lib.hid hL
  clear e hL
  obtain ⟨cc, hcell, hown⟩ := wr_fin hwl HFa.out HE.out (by omega) (by omega)
  have Hown := Lib.hid hown
  clear hown hwl
  go_wp2_with fail
  go_ret
  refine ⟨_, rfl, ?_⟩
  rw [← HL.out]
  exact Hown.out
 ·have h1 := put_x (V.sc.n) 1 (by omega) w.heap.size (w.heap.size + 1 + 1 + 1) (w.heap.size + 1 + 1) [] (by simp) W HW0.out
  have H1 := Lib.hid h1
  clear h1
  go_wp2_with fail
  refine H1.out.mono ?_
  rintro e w1 ⟨rfl, g1, hwa, hfa⟩
  have HWa := Lib.hid hwa
  have HFa := Lib.hid hfa
  clear hwa hfa
  have hwl := HWa.out
  simp only [List.nil_append] at hwl
  have e : encS T.kind V.sc = beN V.sc.n 1 := by rw [h]; simp [encS]
  rw [← e] at hwl
  obtain ⟨L, hL⟩ : ∃ L, L = encS T.kind V.sc := ⟨_, rfl⟩
  rw [← hL] at hwl
  have HL := Lib.hid hL
  clear e hL
  obtain ⟨cc, hcell, hown⟩ := wr_fin hwl HFa.out HE.out (by omega) (by omega)
  have Hown := Lib.hid hown
  clear hown hwl
  go_wp2_with fail
  go_ret
  refine ⟨_, rfl, ?_⟩
  rw [← HL.out]
  exact Hown.out
 ·have h1 := put_x (V.sc.n) 8 (by omega) w.heap.size (w.heap.size + 1 + 1 + 1) (w.heap.size + 1 + 1) [] (by simp) W HW0.out
  have H1 := Lib.hid h1
  clear h1
  go_wp2_with fail
  refine H1.out.mono ?_
  rintro e w1 ⟨rfl, g1, hwa, hfa⟩
  have HWa := Lib.hid hwa
  have HFa := Lib.hid hfa
  clear hwa hfa
  have hwl := HWa.out
  simp only [List.nil_append] at hwl
  have e : encS T.kind V.sc = beN V.sc.n 8 := by rw [h]; simp [encS]
  rw [← e] at hwl
  obtain ⟨L, hL⟩ : ∃ L, L = encS T.kind V.sc := ⟨_, rfl⟩
  rw [← hL] at hwl
  have HL := Lib.hid hL
  clear e hL
  obtain ⟨cc, hcell, hown⟩ := wr_fin hwl HFa.out HE.out (by omega) (by omega)
  have Hown := Lib.hid hown
  clear hown hwl
  go_wp2_with fail
  go_ret
  refine ⟨_, rfl, ?_⟩
  rw [← HL.out]
  exact Hown.out
 ·have h1 := put_x (V.sc.scale) 4 (by omega) w.heap.size (w.heap.size + 1 + 1 + 1) (w.heap.size + 1 + 1) [] (by simp [beN_length]) W HW0.out
  have H1 := Lib.hid h1
  clear h1
  go_wp2_with fail
  refine H1.out.mono ?_
  rintro e w0 ⟨rfl, g0, hwa, hfa⟩
  have HWb := Lib.hid hwa
  have HFb := Lib.hid hfa
  clear hwa hfa
  have hg0 := HWb.out.row
  obtain ⟨d0, d1, d2, d3, d4, d5, d6, d7, d8, d9, d10⟩ := (HB2.out.frame HFb.out (by omega) (by omega)).c11
  have hsz := HFb.out.size
  have hdig := Hgs.out.2.2.2.2.2.2.2.2.2.2.1 (by omega)
  have htl := tc_length (dig_lt hdig)
  have hwh := whole_any V.sc.text Hs.out.text hdig w0
  have Hwh := Lib.hid hwh
  clear hwh hdig
  go_wp2_with fail
  refine Hwh.out.mono ?_
  rintro e wx ⟨rv, rfl, hrv, hex⟩
  obtain ⟨ra, rc, hre, hrc, hseg⟩ := hrv
  subst hre
  have hrv : Bytes wx (.slice ra (tc (numOf (chs V.sc.text))).length rc) (tc (numOf (chs V.sc.text))) := ⟨ra, rc, rfl, hrc, hseg⟩
  have hle := hex.size
  have h1 := bytes_x w.heap.size (w.heap.size + 1 + 1 + 1) g0 ([] ++ beN V.sc.scale 4) (tc (numOf (chs V.sc.text))) ra (tc (numOf (chs V.sc.text))).length rc (by simp [beN_length]) (by omega) wx (HWb.out.ext hex) (by have := hsz; omega) hrv
  have H1 := Lib.hid h1
  have Hex := Lib.hid hex
  clear h1 hrv hex
  go_wp2_with fail
  refine H1.out.mono ?_
  rintro e w1 ⟨rfl, g1, hwa, hfa⟩
  have HWa := Lib.hid hwa
  have HFa := Lib.hid ((HFb.out.trans (FrameW.of_ext Hex.out (w.heap.size + 1 + 1 + 1) g0)).trans hfa)
  clear hwa hfa
  have hwl := HWa.out
  simp only [List.nil_append] at hwl
  have e : encS T.kind V.sc = beN V.sc.scale 4 ++ tc (numOf (chs V.sc.text)) := by rw [h]; simp [encS]
  rw [← e] at hwl
  obtain ⟨L, hL⟩ : ∃ L, L = encS T.kind V.sc := ⟨_, rfl⟩
  rw [← hL] at hwl
  have HL := Lib.hid hL
  clear e hL
  obtain ⟨cc, hcell, hown⟩ := wr_fin hwl HFa.out HE.out (by omega) (by omega)
  have Hown := Lib.hid hown
  clear hown hwl
  go_wp2_with fail
  go_ret
  refine ⟨_, rfl, ?_⟩
  rw [← HL.out]
  exact Hown.out
 ·have hf64 := call_f64bits V.sc.f
  have hfb := Hs.out.f
  have h1 := put_x (wrap64 (V.sc.f : Int)) 8 (by omega) w.heap.size (w.heap.size + 1 + 1 + 1) (w.heap.size + 1 + 1) [] (by simp) W HW0.out
  have H1 := Lib.hid h1
  clear h1
  go_wp2_with fail
  refine H1.out.mono ?_
  rintro e w1 ⟨rfl, g1, hwa, hfa⟩
  have HWa := Lib.hid (beN_wrap (V.sc.f : Int) ▸ hwa)
  have HFa := Lib.hid hfa
  clear hwa hfa
  have hwl := HWa.out
  simp only [List.nil_append] at hwl
  have e : encS T.kind V.sc = beN (V.sc.f : Int) 8 := by rw [h]; simp [encS]
  rw [← e] at hwl
  obtain ⟨L, hL⟩ : ∃ L, L = encS T.kind V.sc := ⟨_, rfl⟩
  rw [← hL] at hwl
  have HL := Lib.hid hL
  clear e hL
  obtain ⟨cc, hcell, hown⟩ := wr_fin hwl HFa.out HE.out (by omega) (by omega)
  have Hown := Lib.hid hown
  clear hown hwl
  go_wp2_with fail
  go_ret
  refine ⟨_, rfl, ?_⟩
  rw [← HL.out]
  exact Hown.out
 ·obtain ⟨hr1, hr2⟩ := f32v_spec (Hgs.out.2.2.2.2.2.2.2.2.2.1 (by omega))
  have hconv : ∀ W, (convert 26 77 (.float .f64 V.sc.f)).run Tryz.prog W = .ok (.float .f32 (f32v V.sc.f)) W := fun W => by
   have u26 := run_underlying (w := W) Tryz.underlying26
   have u77 := run_underlying (w := W) Tryz.underlying77
   simp [convert, u26, u77, hr2]
  have hf32 := call_f32bits (f32v V.sc.f)
  have h1 := put_x ((f32v V.sc.f : Int)) 4 (by omega) w.heap.size (w.heap.size + 1 + 1 + 1) (w.heap.size + 1 + 1) [] (by simp) W HW0.out
  have H1 := Lib.hid h1
  clear h1
  go_wp2_with fail
  refine H1.out.mono ?_
  rintro e w1 ⟨rfl, g1, hwa, hfa⟩
  have HWa := Lib.hid hwa
  have HFa := Lib.hid hfa
  clear hwa hfa
  have hwl := HWa.out
  simp only [List.nil_append] at hwl
  have e : encS T.kind V.sc = beN (f32v V.sc.f : Int) 4 := by rw [h]; simp [encS]
  rw [← e] at hwl
  obtain ⟨L, hL⟩ : ∃ L, L = encS T.kind V.sc := ⟨_, rfl⟩
  rw [← hL] at hwl
  have HL := Lib.hid hL
  clear e hL
  obtain ⟨cc, hcell, hown⟩ := wr_fin hwl HFa.out HE.out (by omega) (by omega)
  have Hown := Lib.hid hown
  clear hown hwl
  go_wp2_with fail
  go_ret
  refine ⟨_, rfl, ?_⟩
  rw [← HL.out]
  exact Hown.out
 ·have h1 := put_x (V.sc.n) 4 (by omega) w.heap.size (w.heap.size + 1 + 1 + 1) (w.heap.size + 1 + 1) [] (by simp) W HW0.out
  have H1 := Lib.hid h1
  clear h1
  go_wp2_with fail
  refine H1.out.mono ?_
  rintro e w1 ⟨rfl, g1, hwa, hfa⟩
  have HWa := Lib.hid hwa
  have HFa := Lib.hid hfa
  clear hwa hfa
  have hwl := HWa.out
  simp only [List.nil_append] at hwl
  have e : encS T.kind V.sc = beN V.sc.n 4 := by rw [h]; simp [encS]
  rw [← e] at hwl
  obtain ⟨L, hL⟩ : ∃ L, L = encS T.kind V.sc := ⟨_, rfl⟩
  rw [← hL] at hwl
  have HL := Lib.hid hL
  clear e hL
  obtain ⟨cc, hcell, hown⟩ := wr_fin hwl HFa.out HE.out (by omega) (by omega)
  have Hown := Lib.hid hown
  clear hown hwl
  go_wp2_with fail
  go_ret
  refine ⟨_, rfl, ?_⟩
  rw [← HL.out]
  exact Hown.out
 ·have h1 := put_x (V.sc.n) 8 (by omega) w.heap.size (w.heap.size + 1 + 1 + 1) (w.heap.size + 1 + 1) [] (by simp) W HW0.out
  have H1 := Lib.hid h1
  clear h1
  go_wp2_with fail
  refine H1.out.mono ?_
  rintro e w1 ⟨rfl, g1, hwa, hfa⟩
  have HWa := Lib.hid hwa
  have HFa := Lib.hid hfa
  clear hwa hfa
  have hwl := HWa.out
  simp only [List.nil_append] at hwl
  have e : encS T.kind V.sc = beN V.sc.n 8 := by rw [h]; simp [encS]
  rw [← e] at hwl
  obtain ⟨L, hL⟩ : ∃ L, L = encS T.kind V.sc := ⟨_, rfl⟩
  rw [← hL] at hwl
  have HL := Lib.hid hL
  clear e hL
  obtain ⟨cc, hcell, hown⟩ := wr_fin hwl HFa.out HE.out (by omega) (by omega)
  have Hown := Lib.hid hown
  clear hown hwl
  go_wp2_with fail
  go_ret
  refine ⟨_, rfl, ?_⟩
  rw [← HL.out]
  exact Hown.out
 ·have hbytes : Bytes W (.slice A V.sc.data.length c) V.sc.data := ⟨A, c, rfl, by omega, fun hn => by
   obtain ⟨b, o, e, hb, -, hc⟩ := Hd.out hn
   exact ⟨b, o, e, Nat.lt_of_lt_of_le hb HE.out.size, fun j u hu => HE.out.cellS (hc j u hu)⟩⟩
  have h1 := bytes_x w.heap.size (w.heap.size + 1 + 1 + 1) (w.heap.size + 1 + 1) [] V.sc.data A V.sc.data.length c (by simp) (by have := Hgs.out.2.2.1 (by omega); omega) W HW0.out (by omega) hbytes
  have H1 := Lib.hid h1
  clear h1 hbytes
  go_wp2_with fail
  refine H1.out.mono ?_
  rintro e w1 ⟨rfl, g1, hwa, hfa⟩
  have HWa := Lib.hid hwa
  have HFa := Lib.hid hfa
  clear hwa hfa
  have hwl := HWa.out
  simp only [List.nil_append] at hwl
  have e : encS T.kind V.sc = V.sc.data := by rw [h]; simp [encS]
  rw [← e] at hwl
  obtain ⟨L, hL⟩ : ∃ L, L = encS T.kind V.sc := ⟨_, rfl⟩
  rw [← hL] at hwl
  have HL := Lib.hid hL
  clear e hL
  obtain ⟨cc, hcell, hown⟩ := wr_fin hwl HFa.out HE.out (by omega) (by omega)
  have Hown := Lib.hid hown
  clear hown hwl
  go_wp2_with fail
  go_ret
  refine ⟨_, rfl, ?_⟩
  rw [← HL.out]
  exact Hown.out
 ·obtain ⟨sc, W1, hrun, hE1, hout⟩ := conv_str V.sc.text W
  have hle := hE1.size
  have h1 := bytes_x w.heap.size (w.heap.size + 1 + 1 + 1) (w.heap.size + 1 + 1) [] (chs V.sc.text) (some ⟨W.heap.size, 0, none⟩) V.sc.text.size sc (by simp) (by have := Hgs.out.1 (by omega); rw [chs_len]; omega) W1 (HW0.out.ext hE1) (by omega) hout.bytes
  have H1 := Lib.hid h1
  have HE1 := Lib.hid hE1
  clear h1 hE1 hout
  go_wp2_with fail
  refine H1.out.mono ?_
  rintro e w1 ⟨rfl, g1, hwa, hfa⟩
  have HWa := Lib.hid hwa
  have HFa := Lib.hid ((FrameW.of_ext HE1.out (w.heap.size + 1 + 1 + 1) (w.heap.size + 1 + 1)).trans hfa)
  clear hwa hfa
  have hwl := HWa.out
  simp only [List.nil_append] at hwl
  have e : encS T.kind V.sc = chs V.sc.text := by rw [h]; simp [encS]
  rw [← e] at hwl
  obtain ⟨L, hL⟩ : ∃ L, L = encS T.kind V.sc := ⟨_, rfl⟩
  rw [← hL] at hwl
  have HL := Lib.hid hL
  clear e hL
  obtain ⟨cc, hcell, hown⟩ := wr_fin hwl HFa.out HE.out (by omega) (by omega)
  have Hown := Lib.hid hown
  clear hown hwl
  go_wp2_with fail
  go_ret
  refine ⟨_, rfl, ?_⟩
  rw [← HL.out]
  exact Hown.out
 ·have hdig := Hgs.out.2.2.2.2.2.2.2.2.2.2.1 (by omega)
  have htl := tc_length (dig_lt hdig)
  have hwh := whole_any V.sc.text Hs.out.text hdig W
  have Hwh := Lib.hid hwh
  clear hwh hdig
  go_wp2_with fail
  refine Hwh.out.mono ?_
  rintro e wx ⟨rv, rfl, hrv, hex⟩
  obtain ⟨ra, rc, hre, hrc, hseg⟩ := hrv
  subst hre
  have hrv : Bytes wx (.slice ra (tc (numOf (chs V.sc.text))).length rc) (tc (numOf (chs V.sc.text))) := ⟨ra, rc, rfl, hrc, hseg⟩
  have hle := hex.size
  have h1 := bytes_x w.heap.size (w.heap.size + 1 + 1 + 1) (w.heap.size + 1 + 1) [] (tc (numOf (chs V.sc.text))) ra (tc (numOf (chs V.sc.text))).length rc (by simp [beN_length]) (by omega) wx (HW0.out.ext hex) (by have := hlt; omega) hrv
  have H1 := Lib.hid h1
  have Hex := Lib.hid hex
  clear h1 hrv hex
  go_wp2_with fail
  refine H1.out.mono ?_
  rintro e w1 ⟨rfl, g1, hwa, hfa⟩
  have HWa := Lib.hid hwa
  have HFa := Lib.hid ((FrameW.of_ext Hex.out (w.heap.size + 1 + 1 + 1) (w.heap.size + 1 + 1)).trans hfa)
  clear hwa hfa
  have hwl := HWa.out
  simp only [List.nil_append] at hwl
  have e : encS T.kind V.sc = tc (numOf (chs V.sc.text)) := by rw [h]; simp [encS]
  rw [← e] at hwl
  obtain ⟨L, hL⟩ : ∃ L, L = encS T.kind V.sc := ⟨_, rfl⟩
  rw [← hL] at hwl
  have HL := Lib.hid hL
  clear e hL
  obtain ⟨cc, hcell, hown⟩ := wr_fin hwl HFa.out HE.out (by omega) (by omega)
  have Hown := Lib.hid hown
  clear hown hwl
  go_wp2_with fail
  go_ret
  refine ⟨_, rfl, ?_⟩
  rw [← HL.out]
  exact Hown.out
 ·have hbytes : Bytes W (.slice A V.sc.data.length c) V.sc.data := ⟨A, c, rfl, by omega, fun hn => by
   obtain ⟨b, o, e, hb, -, hc⟩ := Hd.out hn
   exact ⟨b, o, e, Nat.lt_of_lt_of_le hb HE.out.size, fun j u hu => HE.out.cellS (hc j u hu)⟩⟩
  have h1 := bytes_x w.heap.size (w.heap.size + 1 + 1 + 1) (w.heap.size + 1 + 1) [] V.sc.data A V.sc.data.length c (by simp) (by have := Hgs.out.2.2.1 (by omega); omega) W HW0.out (by omega) hbytes
  have H1 := Lib.hid h1
  clear h1 hbytes
  go_wp2_with fail
  refine H1.out.mono ?_
  rintro e w1 ⟨rfl, g1, hwa, hfa⟩
  have HWa := Lib.hid hwa
  have HFa := Lib.hid hfa
  clear hwa hfa
  have hwl := HWa.out
  simp only [List.nil_append] at hwl
  have e : encS T.kind V.sc = V.sc.data := by rw [h]; simp [encS]
  rw [← e] at hwl
  obtain ⟨L, hL⟩ : ∃ L, L = encS T.kind V.sc := ⟨_, rfl⟩
  rw [← hL] at hwl
  have HL := Lib.hid hL
  clear e hL
  obtain ⟨cc, hcell, hown⟩ := wr_fin hwl HFa.out HE.out (by omega) (by omega)
  have Hown := Lib.hid hown
  clear hown hwl
  go_wp2_with fail
  go_ret
  refine ⟨_, rfl, ?_⟩
  rw [← HL.out]
  exact Hown.out
 ·have hbytes : Bytes W (.slice A V.sc.data.length c) V.sc.data := ⟨A, c, rfl, by omega, fun hn => by
   obtain ⟨b, o, e, hb, -, hc⟩ := Hd.out hn
   exact ⟨b, o, e, Nat.lt_of_lt_of_le hb HE.out.size, fun j u hu => HE.out.cellS (hc j u hu)⟩⟩
  have h1 := bytes_x w.heap.size (w.heap.size + 1 + 1 + 1) (w.heap.size + 1 + 1) [] V.sc.data A V.sc.data.length c (by simp) (by have := Hgs.out.2.2.2.1 h; omega) W HW0.out (by omega) hbytes
  have H1 := Lib.hid h1
  clear h1 hbytes
  go_wp2_with fail
  refine H1.out.mono ?_
  rintro e w1 ⟨rfl, g1, hwa, hfa⟩
  have HWa := Lib.hid hwa
  have HFa := Lib.hid hfa
  clear hwa hfa
  have hwl := HWa.out
  simp only [List.nil_append] at hwl
  have e : encS T.kind V.sc = V.sc.data := by rw [h]; simp [encS]
  rw [← e] at hwl
  obtain ⟨L, hL⟩ : ∃ L, L = encS T.kind V.sc := ⟨_, rfl⟩
  rw [← hL] at hwl
  have HL := Lib.hid hL
  clear e hL
  obtain ⟨cc, hcell, hown⟩ := wr_fin hwl HFa.out HE.out (by omega) (by omega)
  have Hown := Lib.hid hown
  clear hown hwl
  go_wp2_with fail
  go_ret
  refine ⟨_, rfl, ?_⟩
  rw [← HL.out]
  exact Hown.out
 ·have hn17 := Hgs.out.2.2.2.2.2.2.2.2.1 h
  obtain ⟨n1, n2⟩ := hn17
  have h1 := put_x (V.sc.n + 2147483648) 4 (by omega) w.heap.size (w.heap.size + 1 + 1 + 1) (w.heap.size + 1 + 1) [] (by simp) W HW0.out
  have H1 := Lib.hid h1
  clear h1
  go_wp2_with fail
  refine H1.out.mono ?_
  rintro e w1 ⟨rfl, g1, hwa, hfa⟩
  have HWa := Lib.hid hwa
  have HFa := Lib.hid hfa
  clear hwa hfa
  have hwl := HWa.out
  simp only [List.nil_append] at hwl
  have e : encS T.kind V.sc = beN (V.sc.n + 2147483648) 4 := by rw [h]; simp [encS]
  rw [← e] at hwl
  obtain ⟨L, hL⟩ : ∃ L, L = encS T.kind V.sc := ⟨_, rfl⟩
  rw [← hL] at hwl
  have HL := Lib.hid hL
  clear e hL
  obtain ⟨cc, hcell, hown⟩ := wr_fin hwl HFa.out HE.out (by omega) (by omega)
  have Hown := Lib.hid hown
  clear hown hwl
  go_wp2_with fail
  go_ret
  refine ⟨_, rfl, ?_⟩
  rw [← HL.out]
  exact Hown.out
 ·have h1 := put_x (V.sc.n) 8 (by omega) w.heap.size (w.heap.size + 1 + 1 + 1) (w.heap.size + 1 + 1) [] (by simp) W HW0.out
  have H1 := Lib.hid h1
  clear h1
  go_wp2_with fail
  refine H1.out.mono ?_
  rintro e w1 ⟨rfl, g1, hwa, hfa⟩
  have HWa := Lib.hid hwa
  have HFa := Lib.hid hfa
  clear hwa hfa
  have hwl := HWa.out
  simp only [List.nil_append] at hwl
  have e : encS T.kind V.sc = beN V.sc.n 8 := by rw [h]; simp [encS]
  rw [← e] at hwl
  obtain ⟨L, hL⟩ : ∃ L, L = encS T.kind V.sc := ⟨_, rfl⟩
  rw [← hL] at hwl
  have HL := Lib.hid hL
  clear e hL
  obtain ⟨cc, hcell, hown⟩ := wr_fin hwl HFa.out HE.out (by omega) (by omega)
  have Hown := Lib.hid hown
  clear hown hwl
  go_wp2_with fail
  go_ret
  refine ⟨_, rfl, ?_⟩
  rw [← HL.out]
  exact Hown.out
 ·have h1 := put_x (V.sc.n) 2 (by omega) w.heap.size (w.heap.size + 1 + 1 + 1) (w.heap.size + 1 + 1) [] (by simp) W HW0.out
  have H1 := Lib.hid h1
  clear h1
  go_wp2_with fail
  refine H1.out.mono ?_
  rintro e w1 ⟨rfl, g1, hwa, hfa⟩
  have HWa := Lib.hid hwa
  have HFa := Lib.hid hfa
  clear hwa hfa
  have hwl := HWa.out
  simp only [List.nil_append] at hwl
  have e : encS T.kind V.sc = beN V.sc.n 2 := by rw [h]; simp [encS]
  rw [← e] at hwl
  obtain ⟨L, hL⟩ : ∃ L, L = encS T.kind V.sc := ⟨_, rfl⟩
  rw [← hL] at hwl
  have HL := Lib.hid hL
  clear e hL
  obtain ⟨cc, hcell, hown⟩ := wr_fin hwl HFa.out HE.out (by omega) (by omega)
  have Hown := Lib.hid hown
  clear hown hwl
  go_wp2_with fail
  go_ret
  refine ⟨_, rfl, ?_⟩
  rw [← HL.out]
  exact Hown.out
 ·have h1 := put_x (V.sc.n) 1 (by omega) w.heap.size (w.heap.size + 1 + 1 + 1) (w.heap.size + 1 + 1) [] (by simp) W HW0.out
  have H1 := Lib.hid h1
  clear h1
  go_wp2_with fail
  refine H1.out.mono ?_
  rintro e w1 ⟨rfl, g1, hwa, hfa⟩
  have HWa := Lib.hid hwa
  have HFa := Lib.hid hfa
  clear hwa hfa
  have hwl := HWa.out
  simp only [List.nil_append] at hwl
  have e : encS T.kind V.sc = beN V.sc.n 1 := by rw [h]; simp [encS]
  rw [← e] at hwl
  obtain ⟨L, hL⟩ : ∃ L, L = encS T.kind V.sc := ⟨_, rfl⟩
  rw [← hL] at hwl
  have HL := Lib.hid hL
  clear e hL
  obtain ⟨cc, hcell, hown⟩ := wr_fin hwl HFa.out HE.out (by omega) (by omega)
  have Hown := Lib.hid hown
  clear hown hwl
  go_wp2_with fail
  go_ret
  refine ⟨_, rfl, ?_⟩
  rw [← HL.out]
  exact Hown.out
 ·have hvi := vint_any (V.sc.months) Hs.out.months W
  have Hvi := Lib.hid hvi
  clear hvi
  go_wp2_with fail
  refine Hvi.out.mono ?_
  rintro e wx1 ⟨rv1, rfl, hrv⟩
  obtain ⟨ra1, rc1, rfl, -⟩ := ownB_slice hrv.1
  have hle1 := hrv.2.size
  have hvl1 := vint_len (V.sc.months)
  have h1 := bytes_x w.heap.size (w.heap.size + 1 + 1 + 1) (w.heap.size + 1 + 1) [] (vintB (V.sc.months)) ra1 (vintB (V.sc.months)).length rc1 (by first | (simp; done) | (simp; omega)) (by omega) wx1 (HW0.out.ext hrv.2) (by omega) (own_bytes hrv.1)
  have H1 := Lib.hid h1
  have Hex1 := Lib.hid hrv.2
  clear h1 hrv
  go_wp2_with fail
  refine H1.out.mono ?_
  rintro e w1 ⟨rfl, g1, hwa, hfa⟩
  have HWa1 := Lib.hid hwa
  have HFa1 := Lib.hid ((FrameW.of_ext Hex1.out (w.heap.size + 1 + 1 + 1) (w.heap.size + 1 + 1)).trans hfa)
  clear hwa hfa
  have hrow1 := HWa1.out.row
  obtain ⟨d0, d1, d2, d3, d4, d5, d6, d7, d8, d9, d10⟩ := (HB2.out.frame HFa1.out (by omega) (by omega)).c11
  have hsz1 := HFa1.out.size
  have hvi := vint_any (V.sc.days) Hs.out.days w1
  have Hvi := Lib.hid hvi
  clear hvi
  go_wp2_with fail
  refine Hvi.out.mono ?_
  rintro e wx2 ⟨rv2, rfl, hrv⟩
  obtain ⟨ra2, rc2, rfl, -⟩ := ownB_slice hrv.1
  have hle2 := hrv.2.size
  have hvl2 := vint_len (V.sc.days)
  have h1 := bytes_x w.heap.size (w.heap.size + 1 + 1 + 1) g1 ([] ++ vintB V.sc.months) (vintB (V.sc.days)) ra2 (vintB (V.sc.days)).length rc2 (by first | (simp; done) | (simp; omega)) (by omega) wx2 (HWa1.out.ext hrv.2) (by omega) (own_bytes hrv.1)
  have H1 := Lib.hid h1
  have Hex2 := Lib.hid hrv.2
  clear h1 hrv
  go_wp2_with fail
  refine H1.out.mono ?_
  rintro e w2 ⟨rfl, g2, hwa, hfa⟩
  have HWa2 := Lib.hid hwa
  have HFa2 := Lib.hid ((HFa1.out.trans (FrameW.of_ext Hex2.out (w.heap.size + 1 + 1 + 1) g1)).trans hfa)
  clear hwa hfa
  have hrow2 := HWa2.out.row
  obtain ⟨d0, d1, d2, d3, d4, d5, d6, d7, d8, d9, d10⟩ := (HB2.out.frame HFa2.out (by omega) (by omega)).c11
  have hsz2 := HFa2.out.size
  have hvi := vint_any (V.sc.nanos) Hs.out.nanos w2
  have Hvi := Lib.hid hvi
  clear hvi
  go_wp2_with fail
  refine Hvi.out.mono ?_
  rintro e wx3 ⟨rv3, rfl, hrv⟩
  obtain ⟨ra3, rc3, rfl, -⟩ := ownB_slice hrv.1
  have hle3 := hrv.2.size
  have hvl3 := vint_len (V.sc.nanos)
  have h1 := bytes_x w.heap.size (w.heap.size + 1 + 1 + 1) g2 (([] ++ vintB V.sc.months) ++ vintB V.sc.days) (vintB (V.sc.nanos)) ra3 (vintB (V.sc.nanos)).length rc3 (by first | (simp; done) | (simp; omega)) (by omega) wx3 (HWa2.out.ext hrv.2) (by omega) (own_bytes hrv.1)
  have H1 := Lib.hid h1
  have Hex3 := Lib.hid hrv.2
  clear h1 hrv
  go_wp2_with fail
  refine H1.out.mono ?_
  rintro e w3 ⟨rfl, g3, hwa, hfa⟩
  have HWa3 := Lib.hid hwa
  have HFa3 := Lib.hid ((HFa2.out.trans (FrameW.of_ext Hex3.out (w.heap.size + 1 + 1 + 1) g2)).trans hfa)
  clear hwa hfa
  have hwl := HWa3.out
  simp only [List.nil_append] at hwl
  have e : encS T.kind V.sc = vintB V.sc.months ++ vintB V.sc.days ++ vintB V.sc.nanos := by rw [h]; simp [encS]
  rw [← e] at hwl
  obtain ⟨L, hL⟩ : ∃ L, L = encS T.kind V.sc := ⟨_, rfl⟩
  rw [← hL] at hwl
  have HL := Lib.hid hL
  clear e hL
  obtain ⟨cc, hcell, hown⟩ := wr_fin hwl HFa3.out HE.out (by omega) (by omega)
  have Hown := Lib.hid hown
  clear hown hwl
  go_wp2_with fail
  go_ret
  refine ⟨_, rfl, ?_⟩
  rw [← HL.out]
  exact Hown.out
end Go.Proofs.YtammjbmfiakbnaaGreatDoor
namespace Go.Proofs.YtammjbmfiakbnaaGreatDoor
open Go.RowKit
/-- A slice in a new block. -/
def New (w : World) (r : Value) : Prop := ∃ b o n c, r = .slice (some ⟨b, o, none⟩) n c ∧ w.heap.size ≤ b
/-- A slice outside of a set of blocks. -/
def Far (X : Nat → Prop) (r : Value) : Prop := ∀ b o n c, r = .slice (some ⟨b, o, none⟩) n c → ¬ X b
theorem New.far {X : Nat → Prop} {w W : World} {r : Value} (h : New W r) (hX : ∀ b, X b → b < w.heap.size) (hs : w.heap.size ≤ W.heap.size) : Far X r := by
 obtain ⟨b, o, n, c, rfl, hb⟩ := h
 intro b' o' n' c' e hx
 injection e with e
 injection e with e
 injection e with e
 subst e
 have := hX _ hx
 omega
theorem New.up {w W : World} {r : Value} (h : New W r) (hs : w.heap.size ≤ W.heap.size) : New w r := by
 obtain ⟨b, o, n, c, h, hb⟩ := h
 exact ⟨b, o, n, c, h, by omega⟩
/-- What a marshaller gives: these bytes, outside of a set of blocks, and no error. -/
def MarQ (X : Nat → Prop) (l : List UInt8) (w : World) (e : Ending) (w' : World) : Prop := ∃ r, e = .returned (.tuple #[r, .nilIface]) ∧ (Out l r w' ∧ Far X r) ∧ Ext w w'
set_option maxRecDepth 100000 in
theorem encShortN (x : Int) (w : World) : Calls Tryz.prog 81 #[.int .i16 x] w fun e w' => ∃ r, e = .returned r ∧ (Out [bt (x / 256), bt x] r w' ∧ New w r) ∧ Ext w w' := by
 have hmk : ∀ W : World, (Instr.makeSlice 27 (.int .i64 2) (.int .i64 2)).run Tryz.prog W = .ok (.slice (some ⟨W.heap.size, 0, none⟩) 2 2) (W.alloc (.cells #[.int .u8 0, .int .u8 0] 5)) := fun _ => by kernel_rfl
 go_enter Tryz.func81, Tryz.ntmps81
 go_wp2
 go_ret
 exact ⟨_, rfl, ⟨Out.of_blk (Blk.new _ _ _) (by decide) (by decide) rfl (by simp) (by simp [byteV_bt]), ⟨_, _, _, _, rfl, Nat.le_refl _⟩⟩, (Ext.refl _).alloc _⟩
set_option maxRecDepth 100000 in
theorem encIntN (x : Int) (w : World) : Calls Tryz.prog 82 #[.int .i32 x] w fun e w' => ∃ r, e = .returned r ∧ (Out [bt (x / 16777216), bt (x / 65536), bt (x / 256), bt x] r w' ∧ New w r) ∧ Ext w w' := by
 go_enter Tryz.func82, Tryz.ntmps82
 go_wp2
 go_ret
 exact ⟨_, rfl, ⟨Out.of_blk (Blk.new _ _ _) (by decide) (by decide) rfl (by simp) (by simp [byteV_bt]), ⟨_, _, _, _, rfl, Nat.le_refl _⟩⟩, (Ext.refl _).alloc _⟩
set_option maxRecDepth 100000 in
theorem encBigIntN (x : Int) (w : World) : Calls Tryz.prog 83 #[.int .i64 x] w fun e w' =>
  ∃ r, e = .returned r ∧ (Out [bt (x / 72057594037927936), bt (x / 281474976710656), bt (x / 1099511627776), bt (x / 4294967296), bt (x / 16777216), bt (x / 65536), bt (x / 256), bt x] r w' ∧ New w r) ∧ Ext w w' := by
 go_enter Tryz.func83, Tryz.ntmps83
 go_wp2
 go_ret
 exact ⟨_, rfl, ⟨Out.of_blk (Blk.new _ _ _) (by decide) (by decide) rfl (by simp) (by simp [byteV_bt]), ⟨_, _, _, _, rfl, Nat.le_refl _⟩⟩, (Ext.refl _).alloc _⟩
theorem encBoolN (x : Bool) (w : World) : Calls Tryz.prog 79 #[.bool x] w fun e w' => ∃ r, e = .returned r ∧ (Out [bt (if x then 1 else 0)] r w' ∧ New w r) ∧ Ext w w' := by
 cases x
 all_goals
  go_enter Tryz.func79, Tryz.ntmps79
  go_wp2
  go_ret
  exact ⟨_, rfl, ⟨Out.of_blk (Blk.new _ _ _) (by decide) (by decide) rfl (by simp) (by simp [byteV_bt]), ⟨_, _, _, _, rfl, Nat.le_refl _⟩⟩, (Ext.refl _).alloc _⟩
theorem be1 (x : Int) : beN x 1 = [bt x] := by simp [beN]
theorem be2 (x : Int) : beN x 2 = [bt (x / 256), bt x] := by simp [beN]
theorem be4 (x : Int) : beN x 4 = [bt (x / 16777216), bt (x / 65536), bt (x / 256), bt x] := by simp [beN]
theorem be8 (x : Int) : beN x 8 = [bt (x / 72057594037927936), bt (x / 281474976710656), bt (x / 1099511627776), bt (x / 4294967296), bt (x / 16777216), bt (x / 65536), bt (x / 256), bt x] := by simp [beN]
theorem bt_mod {x y : Int} (h : x % 256 = y % 256) : bt x = bt y := by unfold bt; rw [h]
theorem beN_congr {x y : Int} : ∀ (k : Nat), (∃ q : Int, x = y + q * 256 ^ k) → beN x k = beN y k
 |0, _ => rfl
 |k + 1, ⟨q, h⟩ => by
  have hp : (0 : Int) < 256 ^ k := Int.pow_pos (by omega)
  have e : x / 256 ^ k = y / 256 ^ k + q * 256 := by
   rw [h, Int.pow_succ, show q * (256 ^ k * 256) = (q * 256) * 256 ^ k by ac_rfl, Int.add_mul_ediv_right _ _ (by omega)]
  simp only [beN]
  rw [bt_mod (x := x / 256 ^ k) (y := y / 256 ^ k) (by rw [e]; omega), beN_congr (x := x) (y := y) k ⟨q * 256, by rw [h, Int.pow_succ]; congr 1; ac_rfl⟩]
theorem beN_wrap32 (x : Int) : beN (wrap32 x) 4 = beN x 4 := by
 refine beN_congr 4 ⟨(wrap32 x - x) / 4294967296, ?_⟩
 unfold wrap32
 simp only [show (256 : Int) ^ 4 = 4294967296 from rfl]
 omega
set_option maxRecDepth 100000 in
theorem mar_bool (x : Bool) (I : Value) (w : World) (X : Nat → Prop) (hX : ∀ b, X b → b < w.heap.size) : Calls Tryz.prog 53 #[I, .iface 4 (.bool x)] w (MarQ X (beN (if x then 1 else 0) 1) w) := by
 have HX := Lib.hid hX
 clear hX
 rw [be1]
 cases x
 all_goals
  go_enter Tryz.func53, Tryz.ntmps53
  go_wp2_with fail
  refine (encBoolN _ _).mono ?_
  rintro e w1 ⟨r, rfl, hr, hx⟩
  go_wp2_with fail
  go_ret2
  exact ⟨r, rfl, ⟨hr.1, hr.2.far HX.out (by first | exact Nat.le_refl _ | simp)⟩, by first | exact ((Ext.refl w).alloc _).trans hx | exact hx⟩
set_option maxRecDepth 100000 in
theorem mar_small (x : Int) (I : Value) (w : World) (X : Nat → Prop) (hX : ∀ b, X b → b < w.heap.size) : Calls Tryz.prog 55 #[I, .iface 107 (.int .i16 x)] w (MarQ X (beN x 2) w) := by
 have HX := Lib.hid hX
 clear hX
 rw [be2]
 go_enter Tryz.func55, Tryz.ntmps55
 go_wp2_with fail
 refine (encShortN _ _).mono ?_
 rintro e w1 ⟨r, rfl, hr, hx⟩
 go_wp2_with fail
 go_ret2
 exact ⟨r, rfl, ⟨hr.1, hr.2.far HX.out (by first | exact Nat.le_refl _ | simp)⟩, by first | exact ((Ext.refl w).alloc _).trans hx | exact hx⟩
set_option maxRecDepth 100000 in
theorem mar_int (x : Int) (I : Value) (w : World) (X : Nat → Prop) (hX : ∀ b, X b → b < w.heap.size) : Calls Tryz.prog 56 #[I, .iface 21 (.int .i32 x)] w (MarQ X (beN x 4) w) := by
 have HX := Lib.hid hX
 clear hX
 rw [be4]
 go_enter Tryz.func56, Tryz.ntmps56
 go_wp2_with fail
 refine (encIntN _ _).mono ?_
 rintro e w1 ⟨r, rfl, hr, hx⟩
 go_wp2_with fail
 go_ret2
 exact ⟨r, rfl, ⟨hr.1, hr.2.far HX.out (by first | exact Nat.le_refl _ | simp)⟩, by first | exact ((Ext.refl w).alloc _).trans hx | exact hx⟩
set_option maxRecDepth 100000 in
theorem mar_big (x : Int) (I : Value) (w : World) (X : Nat → Prop) (hX : ∀ b, X b → b < w.heap.size) : Calls Tryz.prog 57 #[I, .iface 2 (.int .i64 x)] w (MarQ X (beN x 8) w) := by
 have HX := Lib.hid hX
 clear hX
 rw [be8]
 go_enter Tryz.func57, Tryz.ntmps57
 go_wp2_with fail
 refine (encBigIntN _ _).mono ?_
 rintro e w1 ⟨r, rfl, hr, hx⟩
 go_wp2_with fail
 go_ret2
 exact ⟨r, rfl, ⟨hr.1, hr.2.far HX.out (by first | exact Nat.le_refl _ | simp)⟩, by first | exact ((Ext.refl w).alloc _).trans hx | exact hx⟩
set_option maxRecDepth 100000 in
theorem mar_time (x : Int) (I : Value) (w : World) (X : Nat → Prop) (hX : ∀ b, X b → b < w.heap.size) : Calls Tryz.prog 61 #[I, .iface 2 (.int .i64 x)] w (MarQ X (beN x 8) w) := by
 have HX := Lib.hid hX
 clear hX
 rw [be8]
 go_enter Tryz.func61, Tryz.ntmps61
 go_wp2_with fail
 refine (encBigIntN _ _).mono ?_
 rintro e w1 ⟨r, rfl, hr, hx⟩
 go_wp2_with fail
 go_ret2
 exact ⟨r, rfl, ⟨hr.1, hr.2.far HX.out (by first | exact Nat.le_refl _ | simp)⟩, by first | exact ((Ext.refl w).alloc _).trans hx | exact hx⟩
set_option maxRecDepth 100000 in
theorem mar_stamp (x : Int) (I : Value) (w : World) (X : Nat → Prop) (hX : ∀ b, X b → b < w.heap.size) : Calls Tryz.prog 62 #[I, .iface 2 (.int .i64 x)] w (MarQ X (beN x 8) w) := by
 have HX := Lib.hid hX
 clear hX
 rw [be8]
 go_enter Tryz.func62, Tryz.ntmps62
 go_wp2_with fail
 refine (encBigIntN _ _).mono ?_
 rintro e w1 ⟨r, rfl, hr, hx⟩
 go_wp2_with fail
 go_ret2
 exact ⟨r, rfl, ⟨hr.1, hr.2.far HX.out (by first | exact Nat.le_refl _ | simp)⟩, by first | exact ((Ext.refl w).alloc _).trans hx | exact hx⟩
set_option maxRecDepth 100000 in
theorem mar_date (n : Int) (h0 : -700000 < n) (h1 : n < 2900000) (I : Value) (w : World) (X : Nat → Prop) (hX : ∀ b, X b → b < w.heap.size) : Calls Tryz.prog 70 #[I, .iface 2 (.int .i64 (n * 86400000))] w (MarQ X (beN (n + 2147483648) 4) w) := by
 have HX := Lib.hid hX
 clear hX
 have hq : (n * 86400000).tdiv 86400000 = n := by rw [Int.mul_tdiv_cancel _ (by omega)]
 go_enter Tryz.func70, Tryz.ntmps70
 go_wp2_with fail
 refine (encIntN _ _).mono ?_
 rintro e w1 ⟨r, rfl, hr, hx⟩
 go_wp2_with fail
 go_ret2
 rw [← be4, beN_wrap32] at hr
 exact ⟨r, rfl, ⟨hr.1, hr.2.far HX.out (by first | exact Nat.le_refl _ | simp)⟩, hx⟩
set_option maxRecDepth 100000 in
theorem mar_double (f : Nat) (hf : f < 18446744073709551616) (I : Value) (w : World) (X : Nat → Prop) (hX : ∀ b, X b → b < w.heap.size) : Calls Tryz.prog 59 #[I, .iface 26 (.float .f64 f)] w (MarQ X (beN (f : Int) 8) w) := by
 have HX := Lib.hid hX
 clear hX
 have hc := call_f64bits f
 go_enter Tryz.func59, Tryz.ntmps59
 go_wp2_with fail
 refine (encBigIntN _ _).mono ?_
 rintro e w1 ⟨r, rfl, hr, hx⟩
 go_wp2_with fail
 go_ret2
 rw [← be8, beN_wrap] at hr
 exact ⟨r, rfl, ⟨hr.1, hr.2.far HX.out (by first | exact Nat.le_refl _ | simp)⟩, hx⟩
set_option maxRecDepth 100000 in
theorem mar_float (f : Nat) (hf : f < 4294967296) (I : Value) (w : World) (X : Nat → Prop) (hX : ∀ b, X b → b < w.heap.size) : Calls Tryz.prog 58 #[I, .iface 77 (.float .f32 f)] w (MarQ X (beN (f : Int) 4) w) := by
 have HX := Lib.hid hX
 clear hX
 have hc := call_f32bits f
 go_enter Tryz.func58, Tryz.ntmps58
 go_wp2_with fail
 refine (encIntN _ _).mono ?_
 rintro e w1 ⟨r, rfl, hr, hx⟩
 go_wp2_with fail
 go_ret2
 rw [← be4, beN_wrap32] at hr
 exact ⟨r, rfl, ⟨hr.1, hr.2.far HX.out (by first | exact Nat.le_refl _ | simp)⟩, hx⟩
theorem conv_str_out (s : ByteArray) (W : World) : Ext W (Lib.bytesWorld W 5 s) ∧ Out (chs s) (.slice (some ⟨W.heap.size, 0, none⟩) s.size (grownCap W s.size 0 5)) (Lib.bytesWorld W 5 s) := by
 obtain ⟨c, W1, h1, h2, h3⟩ := conv_str s W
 have h4 := Lib.run_convert_string_bytes (P := Tryz.prog) W 9 27 5 s Tryz.underlying9 Tryz.underlying27 Tryz.underlying5
 rw [h4] at h1
 injection h1 with h1 h5
 injection h1 with _ _ h1
 subst h1
 subst h5
 exact ⟨h2, h3⟩
set_option maxRecDepth 100000 in
theorem mar_text (s : ByteArray) (I : Value) (w : World) (X : Nat → Prop) (hX : ∀ b, X b → b < w.heap.size) : Calls Tryz.prog 52 #[I, .iface 9 (.string s)] w (MarQ X (chs s) w) := by
 have HX := Lib.hid hX
 clear hX
 have hcv : ∀ W : World, (convert 9 27 (.string s)).run Tryz.prog W = .ok (.slice (some ⟨W.heap.size, 0, none⟩) s.size (grownCap W s.size 0 5)) (Lib.bytesWorld W 5 s) := fun W => Lib.run_convert_string_bytes (P := Tryz.prog) W 9 27 5 s Tryz.underlying9 Tryz.underlying27 Tryz.underlying5
 go_enter Tryz.func52, Tryz.ntmps52
 go_wp2_with fail
 go_ret2
 obtain ⟨h1, h2⟩ := conv_str_out s w
 exact ⟨_, rfl, ⟨h2, New.far ⟨_, _, _, _, rfl, Nat.le_refl _⟩ HX.out (Nat.le_refl _)⟩, h1⟩
set_option maxRecDepth 100000 in
theorem mar_blob (v : Value) (l : List UInt8) (I : Value) (w : World) (h : Out l v w) (X : Nat → Prop) (hX : ∀ b, X b → b < w.heap.size) (hF : Far X v) : Calls Tryz.prog 52 #[I, .iface 27 v] w (MarQ X l w) := by
 have HX := Lib.hid hX
 clear hX
 go_enter Tryz.func52, Tryz.ntmps52
 go_wp2_with fail
 go_ret2
 exact ⟨v, rfl, ⟨h, hF⟩, Ext.refl w⟩
set_option maxRecDepth 100000 in
theorem mar_tiny (x : Int) (I : Value) (w : World) (X : Nat → Prop) (hX : ∀ b, X b → b < w.heap.size) : Calls Tryz.prog 54 #[I, .iface 106 (.int .i8 x)] w (MarQ X (beN x 1) w) := by
 have HX := Lib.hid hX
 clear hX
 rw [be1]
 go_enter Tryz.func54, Tryz.ntmps54
 go_wp2_with fail
 go_ret2
 refine ⟨_, rfl, ⟨⟨w.heap.size, 0, 1, #[.int .u8 (x % 256)], 5, (0, 0), rfl, by simp, heap_alloc_new w _, by decide, by decide, fun j u hu => ?_⟩, New.far ⟨_, _, _, _, rfl, Nat.le_refl _⟩ HX.out (Nat.le_refl _)⟩, (Ext.refl w).alloc _⟩
 cases j with
 |zero =>
  simp only [List.map_cons, List.getElem?_cons_zero, Option.some.injEq] at hu
  subst hu
  simp [byteV, bt_nat]
 |succ j => simp at hu
end Go.Proofs.YtammjbmfiakbnaaGreatDoor
