/- A part of the proof that the card of laws.FnMarshal holds. No conditions. -/
import Derived.Test.YtammjbmfiakbnaaGreatDoorAmg
import Derived.Test.YtammjbmfiakbnaaGreatDoorM01
import Derived.Test.YtammjbmfiakbnaaGreatDoorM05
import Derived.Laws.CopyRow
import Derived.Deep.MidRow
import GoSem.Core.Float
import GoSem.Conv.FloatToFloat
import Derived.Laws.FloatArith
import Derived.Test.YtammjbmfiakbnaaGreatDoorM03
import Derived.Test.YtammjbmfiakbnaaGreatDoorM02
import Derived.Lib.BitFns
import Derived.Deep.AppendLies
import Derived.Maps.OwnSet
set_option linter.unusedSimpArgs false
set_option linter.unusedVariables false
namespace Go.Proofs.YtammjbmfiakbnaaGreatDoor
open Go.RowKit
theorem setCells_os (b : Nat) : ∀ (vs : List Value) (o : Nat) (w : World), (w.setCells b o vs).os = w.os ∧ (w.setCells b o vs).tape = w.tape ∧ (w.setCells b o vs).output = w.output
 |[], _, _ => ⟨rfl, rfl, rfl⟩
 |v :: r, o, w => by
  obtain ⟨h1, h2, h3⟩ := setCells_os b r (o + 1) (w.setCell ⟨b, o, none⟩ v)
  exact ⟨h1, h2, h3⟩
/-- A value as it comes in. -/
def VlIn (w : World) (v : List Value) (V : Vl) : Prop := ∃ m, VlAt (fun _ => False) m w v V
set_option maxRecDepth 100000 in
theorem fits3_any (X : Nat → Prop) (m : Nat) (v : List Value) (V : Vl) (w : World) (h : VlAt X m w v V) :
  Calls Tryz.prog 7 #[.agg v.toArray] w (AnsB (fun _ => True) w) := by
 obtain ⟨A, c, A1, c1, A2, c2, rfl, hs⟩ := h.form
 clear h
 simp only [vcells]
 by_cases hb1 : (2147483647 : Int) < V.sc.text.size
 ·go_enter Tryz.func7, Tryz.ntmps7
  go_wp2_with fail
  go_ret
  exact AnsB.mk trivial ((Ext.refl _).alloc _)
 by_cases hb2 : (2147483647 : Int) < V.sc.data.length
 ·go_enter Tryz.func7, Tryz.ntmps7
  go_wp2_with fail
  go_ret
  exact AnsB.mk trivial ((Ext.refl _).alloc _)
 by_cases hb3 : (2147483647 : Int) < V.keys.length
 ·go_enter Tryz.func7, Tryz.ntmps7
  go_wp2_with fail
  go_ret
  exact AnsB.mk trivial ((Ext.refl _).alloc _)
 by_cases hb4 : (2147483647 : Int) < V.kids.length
 ·go_enter Tryz.func7, Tryz.ntmps7
  go_wp2_with fail
  go_ret
  exact AnsB.mk trivial ((Ext.refl _).alloc _)
 ·go_enter Tryz.func7, Tryz.ntmps7
  go_wp2_with fail
  go_ret
  exact AnsB.mk trivial ((Ext.refl _).alloc _)
end Go.Proofs.YtammjbmfiakbnaaGreatDoor
namespace Go.Proofs.YtammjbmfiakbnaaGreatDoor
open Go.RowKit
theorem size5 : (Tryz.prog.info? 5).map (·.size) = some 1 := by kernel_rfl
theorem size120 : (Tryz.prog.info? 120).map (·.size) = some 16 := by kernel_rfl
abbrev Z16 : Array Value := #[.int .u8 0, .int .u8 0, .int .u8 0, .int .u8 0, .int .u8 0, .int .u8 0, .int .u8 0, .int .u8 0, .int .u8 0, .int .u8 0, .int .u8 0, .int .u8 0, .int .u8 0, .int .u8 0, .int .u8 0, .int .u8 0]
theorem Ext.setRow {w w1 : World} (h : Ext w w1) {g : Nat} (hg : w.heap.size ≤ g) (cs : Array Value) : Ext w (w1.setRow g cs) :=
 ⟨h.os, h.tape, h.output, by simp [World.setRow]; exact h.size, fun k hk => (setRow_other _ _ _ _ (by omega)).trans (h.block k hk)⟩
theorem Ext.setCells {w w1 : World} (h : Ext w w1) {g : Nat} (hg : w.heap.size ≤ g) (cs : List Value) : Ext w (w1.setCells g 0 cs) := by
 obtain ⟨h1, h2, h3⟩ := setCells_os g cs 0 w1
 exact ⟨h1.trans h.os, h2.trans h.tape, h3.trans h.output, by rw [setCells_size]; exact h.size, fun k hk => (setCells_heap _ _ _ _ k (by omega)).trans (h.block k hk)⟩
theorem list16 (cs : List Value) (h : cs.length = 16) : ∃ a0 a1 a2 a3 a4 a5 a6 a7 a8 a9 a10 a11 a12 a13 a14 a15, cs = [a0, a1, a2, a3, a4, a5, a6, a7, a8, a9, a10, a11, a12, a13, a14, a15] := by
 match cs, h with
 |[a0, a1, a2, a3, a4, a5, a6, a7, a8, a9, a10, a11, a12, a13, a14, a15], _ => exact ⟨a0, a1, a2, a3, a4, a5, a6, a7, a8, a9, a10, a11, a12, a13, a14, a15, rfl⟩
set_option maxRecDepth 100000 in
theorem uuid_any (A : Option Addr) (c : Nat) (l : List UInt8) (hl : l.length = 16) (w : World) (hA : Seg w A (l.map byteV)) :
  Calls Tryz.prog 50 #[.slice A 16 c] w fun e w' => e = .returned (.tuple #[.agg (l.map byteV).toArray, .nilIface]) ∧ Ext w w' := by
 obtain ⟨g, o, rfl, hcells⟩ := hA (by intro e; have := congrArg List.length e; simp [hl] at this)
 have hone : ∀ v ∈ l.map byteV, v.oneCell' = true := by intro u hu; simp only [List.mem_map] at hu; obtain ⟨y, _, rfl⟩ := hu; rfl
 have hcl : (l.map byteV).length = 16 := by simp [hl]
 generalize l.map byteV = cs at *
 have hcp : ∀ (W : World), W.heap[w.heap.size + 1]? = some (.cells Z16 120 (0, 0)) → Ext w W → ∀ ty : TypeId, (Builtin.copy_ #[27, 27] ty #[.slice (some ⟨w.heap.size + 1, 0, none⟩) 16 16, .slice (some ⟨g, o, none⟩) 16 c]).run Tryz.prog W = .ok (.int .i64 16) (W.setRow (w.heap.size + 1) cs.toArray) := fun W hW he ty => by
  have := run_copy_row (P := Tryz.prog) W 27 27 ty 5 (w.heap.size + 1) 0 16 16 ⟨g, o, none⟩ 16 c Z16 120 cs Tryz.underlying27 size5 hW (by rw [hcl]; rfl) (fun j v hj => by
   have hadd : (⟨g, o, none⟩ : Addr).add j = ⟨g, o + j, none⟩ := by unfold Addr.add; split <;> simp_all
   rw [hadd]
   exact he.cellS (hcells.2 j v hj)) (by rw [hcl]; exact Nat.le_refl _) hone
  rw [this, hcl]
  simp [goInt]
 have Hcp := Lib.hid hcp
 have Hone := Lib.hid hone
 clear hcp hone hcells hA
 go_enter Tryz.func50, Tryz.ntmps50
 go_wp2_with fail
 generalize hW : World.alloc (World.alloc _ _) _ = W
 have h0 : Blk W w.heap.size 120 Z16 ∧ Blk W (w.heap.size + 1) 120 Z16 ∧ Ext w W := by
  rw [← hW]
  refine ⟨(Blk.new w 120 Z16).alloc _, ?_, ((Ext.refl w).alloc _).alloc _⟩
  have := Blk.new (w.alloc (.cells Z16 120)) 120 Z16
  simpa using this
 clear hW
 obtain ⟨h1, h2, h3⟩ := h0
 have hrun := Hcp.out W h2 h3
 have h4 : ∀ W1, W1 = W.setRow (w.heap.size + 1) cs.toArray → Blk W1 w.heap.size 120 Z16 ∧ Blk W1 (w.heap.size + 1) 120 cs.toArray ∧ Ext w W1 := by
  rintro W1 rfl
  exact ⟨(setRow_other _ _ _ _ (by omega)).trans h1, setRow_heap _ _ _ _ _ _ h2, h3.setRow (by omega) _⟩
 have H4 := Lib.hid h4
 clear h1 h2 h3 h4
 rw [hrun 3]
 obtain ⟨h1, h2, h3⟩ := H4.out _ rfl
 have H1 := Lib.hid h1
 have H2 := Lib.hid h2
 have H3 := Lib.hid h3
 clear h1 h2 h3 hrun H4
 have hth : (W.setRow (w.heap.size + 1) cs.toArray).there w.heap.size 0 cs.toArray.size := H1.out.there (by simp [hcl])
 have hsz : (Tryz.prog.info? 120).map (·.size) = some cs.toArray.size := by rw [List.size_toArray, hcl]; exact size120
 have hal := all_oneCell_toArray Hone.out
 have Hth := Lib.hid hth
 have Hsz := Lib.hid hsz
 have Hal := Lib.hid hal
 clear hth hsz hal
 go_wp2_with (first | (refine wpList_load_mid rfl 120 _ rfl (w.heap.size + 1) 0 (by rfl) cs _ (Blk.range H2.out) Tryz.underlying120 rfl (by rw [hcl]; exact size120) ?_) | (refine wpList_store_mid (op := ⟨none, .store 120 _ _, _, _, _, _⟩) rfl 120 _ _ rfl w.heap.size 0 cs.toArray (by rfl) (by rfl) Hth.out Hsz.out Hal.out ?_))
 generalize hW1 : World.setCells _ _ _ _ = W1
 have h1 : W1.rangeAt w.heap.size 0 cs ∧ Ext w W1 := by
  rw [← hW1]
  exact ⟨Blk.range (Blk.setCells (old := Z16.toList) H1.out (by simp [hcl])), H3.out.setCells (Nat.le_refl _) _⟩
 clear hW1
 obtain ⟨h1, h2⟩ := h1
 obtain ⟨a0, a1, a2, a3, a4, a5, a6, a7, a8, a9, a10, a11, a12, a13, a14, a15, rfl⟩ := list16 cs hcl
 have z0 : W1.cell? ⟨w.heap.size, 0, none⟩ = some a0 := h1 0 _ rfl
 have z1 : W1.cell? ⟨w.heap.size, 1, none⟩ = some a1 := h1 1 _ rfl
 have z2 : W1.cell? ⟨w.heap.size, 2, none⟩ = some a2 := h1 2 _ rfl
 have z3 : W1.cell? ⟨w.heap.size, 3, none⟩ = some a3 := h1 3 _ rfl
 have z4 : W1.cell? ⟨w.heap.size, 4, none⟩ = some a4 := h1 4 _ rfl
 have z5 : W1.cell? ⟨w.heap.size, 5, none⟩ = some a5 := h1 5 _ rfl
 have z6 : W1.cell? ⟨w.heap.size, 6, none⟩ = some a6 := h1 6 _ rfl
 have z7 : W1.cell? ⟨w.heap.size, 7, none⟩ = some a7 := h1 7 _ rfl
 have z8 : W1.cell? ⟨w.heap.size, 8, none⟩ = some a8 := h1 8 _ rfl
 have z9 : W1.cell? ⟨w.heap.size, 9, none⟩ = some a9 := h1 9 _ rfl
 have z10 : W1.cell? ⟨w.heap.size, 10, none⟩ = some a10 := h1 10 _ rfl
 have z11 : W1.cell? ⟨w.heap.size, 11, none⟩ = some a11 := h1 11 _ rfl
 have z12 : W1.cell? ⟨w.heap.size, 12, none⟩ = some a12 := h1 12 _ rfl
 have z13 : W1.cell? ⟨w.heap.size, 13, none⟩ = some a13 := h1 13 _ rfl
 have z14 : W1.cell? ⟨w.heap.size, 14, none⟩ = some a14 := h1 14 _ rfl
 have z15 : W1.cell? ⟨w.heap.size, 15, none⟩ = some a15 := h1 15 _ rfl
 exact bodyPost_ret (by simp [results, Tryz.results50, go_sem, z0, z1, z2, z3, z4, z5, z6, z7, z8, z9, z10, z11, z12, z13, z14, z15]) rfl ⟨rfl, h2⟩
end Go.Proofs.YtammjbmfiakbnaaGreatDoor
namespace Go.Proofs.YtammjbmfiakbnaaGreatDoor
open Go.RowKit
/-- Byte j is as an address of IPv4 has it. -/
def mapAt (j : Nat) (c : UInt8) : Prop := (j < 10 → c = 0) ∧ (10 ≤ j → c = 255)
/-- An address that stands for one of IPv4. -/
def Mapped (l : List UInt8) : Prop := ∀ j c, j < 12 → l[j]? = some c → mapAt j c
theorem byte_eq {c : UInt8} {n : Nat} (h : (c.toNat : Int) = n) (hn : n < 256) : c = UInt8.ofNat n := by
 apply UInt8.toNat_inj.1
 rw [UInt8.toNat_ofNat']
 omega
set_option maxRecDepth 100000 in
set_option maxHeartbeats 800000 in
theorem mapped_any (X : Nat → Prop) (l : List UInt8) (hl : l.length = 16) (A : Option Addr) (c : Nat) (hc : 16 ≤ c) (hc' : c ≤ maxLen) (w : World) (h : SegR X w A (l.map byteV)) :
  Calls Tryz.prog 40 #[.slice A 16 c] w (AnsQ (fun b => b = true ↔ Mapped l) w) := by
 unfold maxLen at hc'
 obtain ⟨b, o, rfl, hb, hX, hcell⟩ := h (by intro e; simp at e; rw [e] at hl; simp at hl)
 have hv : ∀ i x, l[i]? = some x → w.cell? ⟨b, o + i, none⟩ = some (.int .u8 (x.toNat : Int)) := fun i x hx => hcell i _ (by simp [byteV, hx])
 have Hv := Lib.hid hv
 have Hl := Lib.hid hl
 have hc1 : (12 : Int) ≤ c := by omega
 clear hv hcell hl h
 go_enter Tryz.func40, Tryz.ntmps40
 go_wp2
 go_loop [3, 4, 8] (fun _ _ v => ∃ i : Nat, i ≤ 12 ∧ v = .int .i64 i ∧ Hid (∀ j x, j < i → l[j]? = some x → mapAt j x)) (fun _ _ v => 12 - (intOf v).toNat)
 case atStart => exact ⟨0, Nat.zero_le _, rfl, Lib.hid (fun j x hj => by omega)⟩
 case round =>
  obtain ⟨i, hi, rfl, Hd⟩ := hrel
  by_cases hlt : (i : Int) < 12
  ·have hi16 : i < 16 := by omega
   have hli : i < l.length := by have := Hl.out; omega
   have hx : l[i]? = some l[i] := List.getElem?_eq_getElem hli
   have c0 := Hv.out i _ hx
   generalize l[i] = x at c0 hx
   have Hx := Lib.hid hx
   clear hx
   by_cases h10 : (i : Int) < 10
   ·by_cases h0 : (x.toNat : Int) = 0
    ·have h0' : ((x.toNat : Int) != 0) = false := by simp [h0]
     have Hx0 := Lib.hid (byte_eq (n := 0) (by simpa using h0) (by omega))
     clear h0
     go_wp2
     go_round
     case rel =>
      refine ⟨i + 1, by omega, by go_num, Lib.hid (fun j y hj hy => ?_)⟩
      by_cases hji : j = i
      ·subst hji
       have e := Hx.out.symm.trans hy
       injection e with e
       subst e
       exact ⟨fun _ => Hx0.out, fun h => by omega⟩
      ·exact Hd.out j y (by omega) hy
     case measure => simp [intOf]; omega
    ·have h0' : ((x.toNat : Int) != 0) = true := bne_iff_ne.2 h0
     have H0 := Lib.hid h0
     clear h0
     go_wp2
     go_ret
     exact AnsQ.mk (by
      simp only [Bool.false_eq_true, false_iff]
      intro hm
      have := (hm i x (by omega) Hx.out).1 (by omega)
      subst this
      exact H0.out rfl)
   ·by_cases h0 : (x.toNat : Int) = 255
    ·have h0' : ((x.toNat : Int) != 255) = false := by simp [h0]
     have Hx0 := Lib.hid (byte_eq (n := 255) (by simpa using h0) (by omega))
     clear h0
     go_wp2
     go_round
     case rel =>
      refine ⟨i + 1, by omega, by go_num, Lib.hid (fun j y hj hy => ?_)⟩
      by_cases hji : j = i
      ·subst hji
       have e := Hx.out.symm.trans hy
       injection e with e
       subst e
       exact ⟨fun h => by omega, fun _ => Hx0.out⟩
      ·exact Hd.out j y (by omega) hy
     case measure => simp [intOf]; omega
    ·have h0' : ((x.toNat : Int) != 255) = true := bne_iff_ne.2 h0
     have H0 := Lib.hid h0
     clear h0
     go_wp2
     go_ret
     exact AnsQ.mk (by
      simp only [Bool.false_eq_true, false_iff]
      intro hm
      have := (hm i x (by omega) Hx.out).2 (by omega)
      subst this
      exact H0.out rfl)
  ·go_wp2
   go_ret
   exact AnsQ.mk (by
    simp only [true_iff]
    exact fun j x hj hx => Hd.out j x (by omega) hx)
end Go.Proofs.YtammjbmfiakbnaaGreatDoor
namespace Go.Proofs.YtammjbmfiakbnaaGreatDoor
open Go Ieee
theorem cut_le (n d : Nat) (neg : Bool) (h : n / 2 ^ min d (n.log2 + 2) < 16777216) : Toward.even.cut neg n d ≤ 16777216 := by
 unfold Toward.cut
 simp only [Nat.one_shiftLeft]
 have : ∀ b : Bool, b.toNat ≤ 1 := by decide
 have h2 := this (decide (2 ^ min d (n.log2 + 2) < 2 * (n % 2 ^ min d (n.log2 + 2))) || (2 ^ min d (n.log2 + 2) == 2 * (n % 2 ^ min d (n.log2 + 2)) && n / 2 ^ min d (n.log2 + 2) % 2 == 1))
 omega
theorem kept_le (m : Nat) (e last : Int) (neg : Bool) (hm : m ≠ 0) (hl : e + m.log2 - 23 ≤ last) : Toward.even.cut neg (m <<< (e - last).toNat) (last - e).toNat ≤ 16777216 := by
 apply cut_le
 have hlt : m < 2 ^ (m.log2 + 1) := Nat.lt_log2_self
 by_cases h : e ≤ last
 ·rw [show (e - last).toNat = 0 by omega, Nat.shiftLeft_zero]
  rcases Nat.le_total (last - e).toNat (m.log2 + 2) with hd | hd
  ·rw [Nat.min_eq_left hd, Nat.div_lt_iff_lt_mul (Nat.two_pow_pos _)]
   refine Nat.lt_of_lt_of_le hlt ?_
   rw [show (16777216 : Nat) = 2 ^ 24 from rfl, ← Nat.pow_add]
   exact Nat.pow_le_pow_right (by omega) (by omega)
  ·rw [Nat.min_eq_right hd, Nat.div_eq_of_lt]
   ·omega
   ·refine Nat.lt_of_lt_of_le hlt (Nat.pow_le_pow_right (by omega) (by omega))
 ·rw [show (last - e).toNat = 0 by omega, Nat.zero_min, Nat.pow_zero, Nat.div_one, Nat.shiftLeft_eq]
  refine Nat.lt_of_lt_of_le (Nat.mul_lt_mul_of_pos_right hlt (Nat.two_pow_pos _)) ?_
  rw [show (16777216 : Nat) = 2 ^ 24 from rfl, ← Nat.pow_add]
  exact Nat.pow_le_pow_right (by omega) (by omega)
/-- The word of a number below 2^20. -/
theorem single_small (s : Bool) (m : Nat) (e : Int) (h : m ≠ 0 → e + m.log2 ≤ 19) : ∃ rung, rung < 255 * 8388608 ∧ single.write (.number s m e) = single.word s rung := by
 unfold Format.write Format.nearest
 by_cases hm : m = 0
 ·simp only [hm, if_true]
  exact ⟨0, by omega, rfl⟩
 ·simp only [hm, if_false]
  refine ⟨_, ?_, rfl⟩
  have h1 := h hm
  have hp : single.leastPlace = -149 := by decide
  have hb : single.binade = 8388608 := by decide
  have hf : (single.fractionBits : Int) = 23 := by decide
  rw [hp, hb, hf]
  have hk := kept_le m e (max (e + m.log2 - 23) (-149)) s hm (by omega)
  have h2 : ((max (e + (m.log2 : Int) - 23) (-149)) - -149).toNat ≤ 145 := by omega
  have h3 : ((max (e + (m.log2 : Int) - 23) (-149)) - -149).toNat * 8388608 ≤ 145 * 8388608 := Nat.mul_le_mul_right _ h2
  refine Nat.lt_of_le_of_lt (Nat.min_le_left _ _) ?_
  omega
theorem read_word (s : Bool) (rung : Nat) (h : rung < 255 * 8388608) : (single.read (single.word s rung)).isInfinity = false := by
 have hw : single.signWeight = 2147483648 := by decide
 have hi : single.infRung = 2139095040 := by decide
 have hr : single.word s rung % single.signWeight = rung := by
  unfold Format.word
  rw [hw]
  cases s <;> simp <;> omega
 unfold Format.read
 simp only [hr, hi]
 have h1 : rung < 2139095040 := by omega
 split
 all_goals first | rfl | (rw [if_pos h1]; rfl)
/-- Two comparisons bound a number. -/
theorem order_bound (f : Nat) (h1 : (double.order f 13920209183539462144 == some .gt) = true) (h2 : (double.order f 4696837146684686336 == some .lt) = true) : ∃ s m e, double.read f = .number s m e ∧ (m ≠ 0 → e + m.log2 ≤ 19) := by
 have c1 : double.read 13920209183539462144 = .number true 8589934592000000 (-33) := by decide
 have c2 : double.read 4696837146684686336 = .number false 8589934592000000 (-33) := by decide
 unfold Format.order at h1 h2
 rw [c1] at h1
 rw [c2] at h2
 cases hd : double.read f with
 |nan s t => rw [hd] at h1; simp [Datum.order] at h1
 |infinity s => rw [hd] at h1 h2; cases s <;> simp [Datum.order] at h1 h2
 |number s m e =>
  refine ⟨s, m, e, rfl, fun hm => ?_⟩
  rw [hd] at h1 h2
  simp only [Datum.order, beq_iff_eq, Option.some.injEq] at h1 h2
  have g1 := Int.compare_eq_gt.1 h1
  have g2 := Int.compare_eq_lt.1 h2
  have hlow : 2 ^ m.log2 ≤ m := Nat.log2_self_le hm
  simp only [signed, if_true, Bool.false_eq_true, if_false] at g1 g2
  have key : m <<< (e - min e (-33)).toNat < 8589934592000000 <<< (-33 - min e (-33)).toNat := by
   cases s
   ·simp only [Bool.false_eq_true, if_false] at g2
    omega
   ·simp only [if_true] at g1
    omega
  rw [Nat.shiftLeft_eq, Nat.shiftLeft_eq] at key
  rcases Int.le_total e (-33) with he | he
  ·rw [show (e - min e (-33)).toNat = 0 by omega, show (-33 - min e (-33)).toNat = (-33 - e).toNat by omega, Nat.pow_zero, Nat.mul_one] at key
   have h3 : m < 2 ^ (53 + (-33 - e).toNat) := by
    rw [Nat.pow_add]
    exact Nat.lt_of_lt_of_le key (Nat.mul_le_mul_right _ (by decide))
   have h4 : m.log2 < 53 + (-33 - e).toNat := (Nat.pow_lt_pow_iff_right (by omega)).1 (Nat.lt_of_le_of_lt hlow h3)
   omega
  ·rw [show (-33 - min e (-33)).toNat = 0 by omega, show (e - min e (-33)).toNat = (e + 33).toNat by omega, Nat.pow_zero, Nat.mul_one] at key
   have h3 : 2 ^ (m.log2 + (e + 33).toNat) < 2 ^ 53 := by
    rw [Nat.pow_add]
    exact Nat.lt_of_le_of_lt (Nat.mul_le_mul_right _ hlow) (Nat.lt_of_lt_of_le key (by decide))
   have h4 := (Nat.pow_lt_pow_iff_right (a := 2) (by omega)).1 h3
   omega
/-- A number that has one form in single precision. -/
def F32 (f : Nat) : Prop := ∃ r, r < 4294967296 ∧ ∀ (P : Program) (W : World), (Conv.floatToFloat .f64 f .f32).run P W = .ok (.float .f32 r) W
theorem f32_of (f : Nat) (h1 : (double.order f 13920209183539462144 == some .gt) = true) (h2 : (double.order f 4696837146684686336 == some .lt) = true) : F32 f := by
 obtain ⟨s, m, e, hd, hb⟩ := order_bound f h1 h2
 obtain ⟨rung, hr, hw⟩ := single_small s m e hb
 refine ⟨single.word s rung, ?_, fun P W => ?_⟩
 ·have : single.signWeight = 2147483648 := by decide
  unfold Format.word
  rw [this]
  split <;> omega
 ·unfold Conv.floatToFloat
  have hd' : FloatKind.f64.decode f = .number s m e := hd
  have hw' : FloatKind.f32.encode (.number s m e) = single.word s rung := hw
  have hi : (FloatKind.f32.decode (single.word s rung)).isInfinity = false := read_word s rung hr
  simp only [hd', hw', hi]
  rfl
end Go.Proofs.YtammjbmfiakbnaaGreatDoor
namespace Go.Proofs.YtammjbmfiakbnaaGreatDoor
open Go.RowKit
theorem mul8 (f : Nat) (h1 : (Ieee.double.order f 13920209183539462144 == some .gt) = true) (h2 : (Ieee.double.order f 4696837146684686336 == some .lt) = true) : ∃ g, Ieee.double.mul f 4620693217682128896 = some g := by
 obtain ⟨s, m, e, hd, _⟩ := order_bound f h1 h2
 have c8 : Ieee.double.read 4620693217682128896 = .number false 4503599627370496 (-49) := by decide
 unfold Ieee.Format.mul
 rw [hd, c8]
 exact ⟨_, rfl⟩
theorem inv1 (f : Nat) (h1 : (Ieee.double.order f 13920209183539462144 == some .gt) = true) (h2 : (Ieee.double.order f 4696837146684686336 == some .lt) = true) : ∃ g, Ieee.double.div 4607182418800017408 f = some g := by
 obtain ⟨s, m, e, hd, _⟩ := order_bound f h1 h2
 have c1 : Ieee.double.read 4607182418800017408 = .number false 4503599627370496 (-52) := by decide
 unfold Ieee.Format.div
 rw [hd, c1]
 simp only [Ieee.Datum.quotient]
 by_cases hm : m = 0
 ·simp [hm]
 ·simp [hm]
theorem toInt_any (g : Nat) (P : Program) (W : World) : ∃ (n : Int) (ww : World), (ww = W ∨ ww = W.drew) ∧ (Conv.floatToInt .f64 g .i64).run P W = .ok (.int .i64 n) ww := by
 unfold Conv.floatToInt
 cases h : (FloatKind.f64.decode g).toInt .zero with
 |none => exact ⟨_, W.drew, .inr rfl, by simp [choose, Sem.run, Question.forced]; rfl⟩
 |some n =>
  by_cases hr : IntKind.i64.min ≤ n ∧ n ≤ IntKind.i64.max
  ·exact ⟨n, W, .inl rfl, by simp only [if_pos hr]; rfl⟩
  ·exact ⟨_, W.drew, .inr rfl, by simp only [hr, if_false]; simp [choose, Sem.run, Question.forced]; rfl⟩
set_option maxRecDepth 100000 in
set_option maxHeartbeats 800000 in
theorem simple_any (f : Nat) (w : World) : Calls Tryz.prog 42 #[.float .f64 f] w (AnsB (fun b => b = true → F32 f) w) := by
 cases h1 : (FloatKind.f64.format.order f 13920209183539462144 == some .gt) with
 |false =>
  go_enter Tryz.func42, Tryz.ntmps42
  go_wp2_with fail
  all_goals
   go_ret
   exact AnsB.mk (by simp) (Ext.refl _)
 |true =>
  cases h2 : (FloatKind.f64.format.order f 4696837146684686336 == some .lt) with
  |false =>
   go_enter Tryz.func42, Tryz.ntmps42
   go_wp2_with fail
   all_goals
    go_ret
    exact AnsB.mk (by simp) (Ext.refl _)
  |true =>
   obtain ⟨g, hg⟩ := mul8 f h1 h2
   obtain ⟨q, hq⟩ := inv1 f h1 h2
   have hF := Lib.hid (f32_of f h1 h2)
   have hmul : ∀ W, (binOp .mul 26 (.float .f64 f) (.float .f64 4620693217682128896)).run Tryz.prog W = .ok (.float .f64 g) W := fun W => by
    have hg' : FloatKind.f64.format.mul f 4620693217682128896 = some g := hg
    simp [binOp, Op.floatArith, hg']
   have hquo : ∀ W, (binOp .quo 26 (.float .f64 4607182418800017408) (.float .f64 f)).run Tryz.prog W = .ok (.float .f64 q) W := fun W => by
    have hq' : FloatKind.f64.format.div 4607182418800017408 f = some q := hq
    simp [binOp, Op.floatArith, hq']
   obtain ⟨n, ww, hww, hn⟩ := toInt_any g Tryz.prog w
   have hconv : (convert 26 2 (.float .f64 g)).run Tryz.prog w = .ok (.int .i64 n) ww := by
    have u26 := run_underlying (w := w) Tryz.underlying26
    have u2 := run_underlying (w := w) Tryz.underlying2
    simp [convert, u26, u2, hn]
   have hback : ∀ W, (convert 2 26 (.int .i64 n)).run Tryz.prog W = .ok (.float .f64 (FloatKind.f64.nearest n)) W := fun W => by
    have u26 := run_underlying (w := W) Tryz.underlying26
    have u2 := run_underlying (w := W) Tryz.underlying2
    simp [convert, u26, u2, Conv.intToFloat]
   have hE : Hid (Ext w ww) := Lib.hid (by
    rcases hww with rfl | rfl
    ·exact Ext.refl _
    ·exact (Ext.refl _).drew)
   clear hg hq hn hww
   go_enter Tryz.func42, Tryz.ntmps42
   go_wp2_with fail
   all_goals
    go_ret
    exact AnsB.mk (fun _ => hF.out) hE.out
end Go.Proofs.YtammjbmfiakbnaaGreatDoor
namespace Go.Proofs.YtammjbmfiakbnaaGreatDoor
open Go.RowKit
/-- The value's own parts, by the kind of its type. -/
def GoodS (k : Int) (s : Sc) : Prop :=
 ((k = 1 ∨ k = 13) → s.text.size ≤ 100) ∧ (k = 3 → s.data.length ≤ 100) ∧ ((k = 12 ∨ k = 15) → s.data.length = 16) ∧ (k = 16 → s.data.length = 4 ∨ (s.data.length = 16 ∧ ¬ Mapped s.data)) ∧
 (k = 9 → -2147483648 ≤ s.n ∧ s.n ≤ 2147483647) ∧ (k = 19 → -32768 ≤ s.n ∧ s.n ≤ 32767) ∧ (k = 20 → -128 ≤ s.n ∧ s.n ≤ 127) ∧ (k = 4 → s.n = 0 ∨ s.n = 1) ∧ (k = 17 → -700000 < s.n ∧ s.n < 2900000) ∧
 ((k = 7 ∨ k = 8) → F32 s.f) ∧ ((k = 14 ∨ k = 6) → DigS (chs s.text)) ∧ (k = 6 → -1000 < s.scale ∧ s.scale < 1000) ∧
 (k = 21 → -2147483648 ≤ s.months ∧ s.months ≤ 2147483647 ∧ -2147483648 ≤ s.days ∧ s.days ≤ 2147483647)
/-- A value is one of its type, so deep at the most. -/
def GoodV : Nat → Ty → Vl → Prop
 |0, _, _ => False
 |n + 1, T, V => V.sc.nul = false ∧ V.kids.length ≤ 20 ∧ ((T.kind < 32 ∧ V.kids = [] ∧ V.keys = [] ∧ GoodS T.kind V.sc) ∨
   ((T.kind = 32 ∨ T.kind = 34) ∧ V.keys = [] ∧ ∃ t, T.kids[0]? = some t ∧ ∀ k ∈ V.kids, GoodV n t k) ∨
   (T.kind = 33 ∧ V.keys.length = V.kids.length ∧ ∃ t t', T.kids[0]? = some t ∧ T.kids[1]? = some t' ∧ (∀ k ∈ V.keys, GoodV n t k) ∧ ∀ k ∈ V.kids, GoodV n t' k) ∨
   ((T.kind = 48 ∨ T.kind = 49) ∧ V.keys = [] ∧ V.kids.length = T.kids.length ∧ ∀ (i : Nat) (t : Ty) (k : Vl), T.kids[i]? = some t → V.kids[i]? = some k →
    GoodV n t k ∨ (T.kind = 49 ∧ k.sc.nul = true ∧ k.kids = [] ∧ k.keys = [])))
/-- A copy that is one of its type is whole. -/
theorem cutAt_good : ∀ (n : Nat) (T : Ty) (d : Nat) (V : Vl), n < d → GoodV n T (cutAt d V) → cutAt d V = V
 |0, _, _, _, _, h => h.elim
 |n + 1, T, 0, _, hd, _ => by omega
 |n + 1, T, d + 1, .mk s ks ds, hd, h => by
  have hall : ∀ (t : Ty) (l : List Vl), (∀ k ∈ l.map (cutAt d), GoodV n t k) → l.map (cutAt d) = l := fun t l hl => by
   refine (List.map_congr_left (g := id) (fun k hk => ?_)).trans (List.map_id l)
   exact cutAt_good n t d k (by omega) (hl _ (List.mem_map_of_mem hk))
  show Vl.mk s (ks.map (cutAt d)) (ds.map (cutAt d)) = Vl.mk s ks ds
  have hnil : ∀ l : List Vl, l.map (cutAt d) = [] → l.map (cutAt d) = l := fun l hl => by
   have : l = [] := List.map_eq_nil_iff.1 hl
   subst this
   rfl
  obtain ⟨_, _, h⟩ := h
  rcases h with ⟨_, h1, h2, _⟩ | ⟨_, h2, t, _, h1⟩ | ⟨_, _, t, t', _, _, h1, h2⟩ | ⟨hk, h2, hlen, h1⟩
  ·rw [hnil ks h2, hnil ds h1]
  ·rw [hnil ks h2, hall t ds h1]
  ·rw [hall t ks h1, hall t' ds h2]
  ·rw [hnil ks h2]
   congr 1
   have hlen' : ds.length = T.kids.length := by simpa [cutAt] using hlen
   refine List.ext_getElem (by simp) fun i hi hi' => ?_
   simp only [List.getElem_map]
   have hT : i < T.kids.length := by omega
   rcases h1 i _ _ (List.getElem?_eq_getElem hT) (by show (ds.map (cutAt d))[i]? = _; rw [List.getElem?_eq_getElem (by simpa using hi')]) with hg | ⟨_, _, hb1, hb2⟩
   ·simp only [List.getElem_map] at hg
    exact cutAt_good n _ d _ (by omega) hg
   ·simp only [List.getElem_map] at hb1 hb2
    obtain ⟨d, rfl⟩ : ∃ e, d = e + 1 := ⟨d - 1, by omega⟩
    generalize ds[i] = V at hb1 hb2
    obtain ⟨s', a, b⟩ := V
    have ha : a = [] := List.map_eq_nil_iff.1 hb2
    have hb : b = [] := List.map_eq_nil_iff.1 hb1
    subst ha; subst hb
    rfl
end Go.Proofs.YtammjbmfiakbnaaGreatDoor
namespace Go.Proofs.YtammjbmfiakbnaaGreatDoor
open Go.RowKit
/-- A number folded. -/
def zz (n : Int) : Nat := if 0 ≤ n then (2 * n).toNat else (-2 * n - 1).toNat
/-- How many bytes it takes. -/
def vsz (u : Nat) : Nat := if u < 128 then 1 else if u < 16384 then 2 else if u < 2097152 then 3 else if u < 268435456 then 4 else if u < 34359738368 then 5 else if u < 4398046511104 then 6 else if u < 562949953421312 then 7 else if u < 72057594037927936 then 8 else 9
/-- The ones ahead. -/
def vmask (k : Nat) : Nat := 256 - 256 / 2 ^ (k - 1)
/-- The bytes. -/
def vintU (u : Nat) : List UInt8 := if vsz u = 9 then 255 :: beN u 8 else bt (((u / 256 ^ (vsz u - 1) + vmask (vsz u) : Nat)) : Int) :: beN u (vsz u - 1)
def vintB (n : Int) : List UInt8 := vintU (zz n)
theorem vsz_range (u : Nat) : 1 ≤ vsz u ∧ vsz u ≤ 9 := by unfold vsz; (repeat' split) <;> omega
theorem vintB_length (n : Int) : (vintB n).length = vsz (zz n) := by
 have := vsz_range (zz n)
 unfold vintB vintU
 split <;> simp [beN_length] <;> omega
theorem zz_lt (n : Int) (h : -9223372036854775808 ≤ n ∧ n ≤ 9223372036854775807) : zz n < 18446744073709551616 := by unfold zz; split <;> omega
theorem vsz_of (u k : Nat) (h1 : 1 ≤ k) (h9 : k ≤ 9) (hlo : k = 1 ∨ 128 ^ (k - 1) ≤ u) (hhi : k = 9 ∨ u < 128 ^ k) : vsz u = k := by
 have : k = 1 ∨ k = 2 ∨ k = 3 ∨ k = 4 ∨ k = 5 ∨ k = 6 ∨ k = 7 ∨ k = 8 ∨ k = 9 := by omega
 rcases this with rfl | rfl | rfl | rfl | rfl | rfl | rfl | rfl | rfl <;> simp at hlo hhi <;> unfold vsz <;> (repeat' split) <;> omega
theorem bits_u64_zero (a : Int) (h0 : 0 ≤ a) (h1 : a < 18446744073709551616) : bits .xor .u64 a 0 = a := by
 have : (BitVec.ofInt 64 0) = 0#64 := by decide
 show IntKind.u64.wrap ((BitVec.ofInt 64 a ^^^ BitVec.ofInt 64 0).toNat : Int) = _
 rw [this, BitVec.xor_zero, BitVec.toNat_ofInt, IntKind.wrap_u64]
 omega
theorem bits_u64_ones (a : Int) (h0 : 0 ≤ a) (h1 : a < 18446744073709551616) : bits .xor .u64 a 18446744073709551615 = 18446744073709551615 - a := by
 have : (BitVec.ofInt 64 18446744073709551615) = BitVec.allOnes 64 := by decide
 show IntKind.u64.wrap ((BitVec.ofInt 64 a ^^^ BitVec.ofInt 64 18446744073709551615).toNat : Int) = _
 rw [this, BitVec.xor_allOnes, BitVec.toNat_not, BitVec.toNat_ofInt, IntKind.wrap_u64]
 omega
theorem bits_i64_zero (a : Int) (h0 : -9223372036854775808 ≤ a) (h1 : a ≤ 9223372036854775807) : bits .xor .i64 0 a = a := by
 have : (BitVec.ofInt 64 0) = 0#64 := by decide
 show IntKind.i64.wrap ((BitVec.ofInt 64 0 ^^^ BitVec.ofInt 64 a).toNat : Int) = _
 rw [this, BitVec.zero_xor, BitVec.toNat_ofInt, IntKind.wrap_i64]
 omega
theorem bits_i64_ones (a : Int) (h0 : -9223372036854775808 ≤ a) (h1 : a ≤ 9223372036854775807) : bits .xor .i64 (-1) a = -1 - a := by
 have : (BitVec.ofInt 64 (-1)) = BitVec.allOnes 64 := by decide
 show IntKind.i64.wrap ((BitVec.ofInt 64 (-1) ^^^ BitVec.ofInt 64 a).toNat : Int) = _
 rw [this, BitVec.allOnes_xor, BitVec.toNat_not, BitVec.toNat_ofInt, IntKind.wrap_i64]
 omega
/-- The ones ahead of a small number: 'or' is a sum. -/
theorem or_mask1 (q : Nat) (h : q < 128) : bits .or .u8 (q : Int) 0 = ((q + 0 : Nat) : Int) := by
 have : ∀ x : Fin 128, bits .or .u8 (x.val : Int) 0 = ((x.val + 0 : Nat) : Int) := by decide +kernel
 exact this ⟨q, h⟩
theorem or_mask2 (q : Nat) (h : q < 64) : bits .or .u8 (q : Int) 128 = ((q + 128 : Nat) : Int) := by
 have : ∀ x : Fin 64, bits .or .u8 (x.val : Int) 128 = ((x.val + 128 : Nat) : Int) := by decide +kernel
 exact this ⟨q, h⟩
theorem or_mask3 (q : Nat) (h : q < 32) : bits .or .u8 (q : Int) 192 = ((q + 192 : Nat) : Int) := by
 have : ∀ x : Fin 32, bits .or .u8 (x.val : Int) 192 = ((x.val + 192 : Nat) : Int) := by decide +kernel
 exact this ⟨q, h⟩
theorem or_mask4 (q : Nat) (h : q < 16) : bits .or .u8 (q : Int) 224 = ((q + 224 : Nat) : Int) := by
 have : ∀ x : Fin 16, bits .or .u8 (x.val : Int) 224 = ((x.val + 224 : Nat) : Int) := by decide +kernel
 exact this ⟨q, h⟩
theorem or_mask5 (q : Nat) (h : q < 8) : bits .or .u8 (q : Int) 240 = ((q + 240 : Nat) : Int) := by
 have : ∀ x : Fin 8, bits .or .u8 (x.val : Int) 240 = ((x.val + 240 : Nat) : Int) := by decide +kernel
 exact this ⟨q, h⟩
theorem or_mask6 (q : Nat) (h : q < 4) : bits .or .u8 (q : Int) 248 = ((q + 248 : Nat) : Int) := by
 have : ∀ x : Fin 4, bits .or .u8 (x.val : Int) 248 = ((x.val + 248 : Nat) : Int) := by decide +kernel
 exact this ⟨q, h⟩
theorem or_mask7 (q : Nat) (h : q < 2) : bits .or .u8 (q : Int) 252 = ((q + 252 : Nat) : Int) := by
 have : ∀ x : Fin 2, bits .or .u8 (x.val : Int) 252 = ((x.val + 252 : Nat) : Int) := by decide +kernel
 exact this ⟨q, h⟩
theorem or_mask8 (q : Nat) (h : q < 1) : bits .or .u8 (q : Int) 254 = ((q + 254 : Nat) : Int) := by
 have : ∀ x : Fin 1, bits .or .u8 (x.val : Int) 254 = ((x.val + 254 : Nat) : Int) := by decide +kernel
 exact this ⟨q, h⟩
theorem or_mask9 (q : Nat) (h : q < 1) : bits .or .u8 (q : Int) 255 = ((q + 255 : Nat) : Int) := by
 have : q = 0 := by omega
 subst this
 decide
end Go.Proofs.YtammjbmfiakbnaaGreatDoor
namespace Go.Proofs.YtammjbmfiakbnaaGreatDoor
open Go.RowKit
/-- A number of single precision, as a word. -/
noncomputable def f32v (f : Nat) : Nat := Classical.epsilon fun r => r < 4294967296 ∧ ∀ (P : Program) (W : World), (Conv.floatToFloat .f64 f .f32).run P W = .ok (.float .f32 r) W
theorem f32v_spec {f : Nat} (h : F32 f) : f32v f < 4294967296 ∧ ∀ (P : Program) (W : World), (Conv.floatToFloat .f64 f .f32).run P W = .ok (.float .f32 (f32v f)) W :=
 Classical.epsilon_spec (p := fun r => r < 4294967296 ∧ ∀ (P : Program) (W : World), (Conv.floatToFloat .f64 f .f32).run P W = .ok (.float .f32 r) W) h
/-- The bytes of a value that holds no others. -/
noncomputable def encS (k : Int) (s : Sc) : List UInt8 :=
 if k = 1 ∨ k = 13 then chs s.text else if k = 3 ∨ k = 12 ∨ k = 15 ∨ k = 16 then s.data else if k = 2 ∨ k = 5 ∨ k = 11 ∨ k = 18 then beN s.n 8 else if k = 9 then beN s.n 4 else if k = 19 then beN s.n 2
 else if k = 20 ∨ k = 4 then beN s.n 1 else if k = 17 then beN (s.n + 2147483648) 4 else if k = 7 then beN (s.f : Int) 8 else if k = 8 then beN (f32v s.f : Int) 4 else if k = 14 then tc (numOf (chs s.text))
 else if k = 6 then beN s.scale 4 ++ tc (numOf (chs s.text)) else vintB s.months ++ vintB s.days ++ vintB s.nanos
/-- A value with its length ahead. -/
def itemB (nul : Bool) (l : List UInt8) : List UInt8 := if nul then beN (-1) 4 else beN (l.length : Int) 4 ++ l
/-- The binary form. -/
noncomputable def enc : Nat → Ty → Vl → List UInt8
 |0, _, _ => []
 |n + 1, T, V =>
  if T.kind < 32 then encS T.kind V.sc
  else if T.kind = 32 ∨ T.kind = 34 then beN (V.kids.length : Int) 4 ++ V.kids.flatMap (fun k => itemB k.sc.nul (enc n (T.kids.getD 0 Ty.bad) k))
  else if T.kind = 33 then beN (V.keys.length : Int) 4 ++ (V.keys.zip V.kids).flatMap (fun p => itemB p.1.sc.nul (enc n (T.kids.getD 0 Ty.bad) p.1) ++ itemB p.2.sc.nul (enc n (T.kids.getD 1 Ty.bad) p.2))
  else (T.kids.zip V.kids).flatMap (fun p => itemB p.2.sc.nul (enc n p.1 p.2))
theorem beN_len (n : Int) (k : Nat) : (beN n k).length = k := beN_length n k
/-- How long it can be. -/
def bnd : Nat → Nat
 |0 => 0
 |n + 1 => 124 + 40 * (4 + bnd n)
theorem bnd5 : bnd 5 < 2147483648 := by decide
theorem bnd_mono : ∀ {a b : Nat}, a ≤ b → bnd a ≤ bnd b
 |0, _, _ => Nat.zero_le _
 |a + 1, 0, h => by omega
 |a + 1, b + 1, h => by
  have := bnd_mono (show a ≤ b by omega)
  simp only [bnd]
  omega
theorem dig_lt {l : List UInt8} (h : DigS l) : (numOf l).natAbs < 10 ^ 40 := by
 have key : ∀ l : List UInt8, Dig l → decN l < 10 ^ 40 := fun l h =>
  Nat.lt_of_lt_of_le (decN_lt l (fun c hc => (h.2.2.1 c hc).2)) (Nat.pow_le_pow_right (by omega) h.2.1)
 rcases h with h | ⟨r, rfl, h, _⟩
 ·cases l with
  |nil => exact absurd rfl h.1
  |cons c r =>
   have hc := h.2.2.1 c (by simp)
   have h45 : c ≠ 45 := by
    rintro rfl
    exact absurd hc (by decide)
   have := key _ h
   simp only [numOf, h45, if_false]
   omega
 ·have := key _ h
  simp only [numOf, if_true]
  omega
theorem chs_len (s : ByteArray) : (chs s).length = s.size := rfl
theorem vint_len (n : Int) : (vintB n).length ≤ 9 := by rw [vintB_length]; exact (vsz_range _).2
theorem encS_len {k : Int} {s : Sc} (hk : 1 ≤ k ∧ k ≤ 21 ∧ k ≠ 10) (h : GoodS k s) : (encS k s).length ≤ 100 := by
 obtain ⟨h1, h2, h3, h4, h5, h6, h7, h8, h9, h10, h11, h12, h13⟩ := h
 have e1 := vint_len s.months
 have e2 := vint_len s.days
 have e3 := vint_len s.nanos
 unfold encS
 by_cases a0 : k = 1 ∨ k = 13
 ·rw [if_pos a0]
  rw [chs_len]; exact h1 a0
 rw [if_neg a0]
 by_cases a1 : k = 3 ∨ k = 12 ∨ k = 15 ∨ k = 16
 ·rw [if_pos a1]
  rcases a1 with h | h | h | h
  ·exact h2 h
  ·have := h3 (.inl h); omega
  ·have := h3 (.inr h); omega
  ·have := h4 h; omega
 rw [if_neg a1]
 by_cases a2 : k = 2 ∨ k = 5 ∨ k = 11 ∨ k = 18
 ·rw [if_pos a2]
  rw [beN_len]; decide
 rw [if_neg a2]
 by_cases a3 : k = 9
 ·rw [if_pos a3]
  rw [beN_len]; decide
 rw [if_neg a3]
 by_cases a4 : k = 19
 ·rw [if_pos a4]
  rw [beN_len]; decide
 rw [if_neg a4]
 by_cases a5 : k = 20 ∨ k = 4
 ·rw [if_pos a5]
  rw [beN_len]; decide
 rw [if_neg a5]
 by_cases a6 : k = 17
 ·rw [if_pos a6]
  rw [beN_len]; decide
 rw [if_neg a6]
 by_cases a7 : k = 7
 ·rw [if_pos a7]
  rw [beN_len]; decide
 rw [if_neg a7]
 by_cases a8 : k = 8
 ·rw [if_pos a8]
  rw [beN_len]; decide
 rw [if_neg a8]
 by_cases a9 : k = 14
 ·rw [if_pos a9]
  have := tc_length (dig_lt (h11 (.inl a9))); omega
 rw [if_neg a9]
 by_cases a10 : k = 6
 ·rw [if_pos a10]
  have := tc_length (dig_lt (h11 (.inr a10)))
  rw [List.length_append, beN_len]; omega
 rw [if_neg a10]
 simp only [List.length_append]
 omega
theorem flat_len {α : Type} (f : α → List UInt8) (b : Nat) : ∀ l : List α, (∀ x ∈ l, (f x).length ≤ b) → (l.flatMap f).length ≤ l.length * b
 |[], _ => by simp
 |a :: r, h => by
  have h1 := h a (by simp)
  have h2 := flat_len f b r (fun x hx => h x (by simp [hx]))
  simp only [List.flatMap_cons, List.length_append, List.length_cons, Nat.add_mul]
  omega
theorem item_len (b : Bool) (l : List UInt8) : (itemB b l).length ≤ 4 + l.length := by
 unfold itemB
 split
 ·rw [beN_len]; omega
 ·rw [List.length_append, beN_len]; omega
theorem kinds_hi {T : Ty} (h : Shape T) (hk : ¬ T.kind < 32) : T.kind = 32 ∨ T.kind = 33 ∨ T.kind = 34 ∨ T.kind = 48 ∨ T.kind = 49 := by
 unfold Shape at h
 omega
theorem kinds_lo {T : Ty} (h : Shape T) (hk : T.kind < 32) : 1 ≤ T.kind ∧ T.kind ≤ 21 ∧ T.kind ≠ 10 := by
 unfold Shape at h
 omega
theorem getD_of {T t : Ty} {i : Nat} (h : T.kids[i]? = some t) : T.kids.getD i Ty.bad = t := by
 rw [List.getD_eq_getElem?_getD, h]
 rfl
theorem enc_len : ∀ (n : Nat) (T : Ty) (V : Vl), Good n T → GoodV n T V → (enc n T V).length ≤ bnd n
 |0, _, _, h, _ => h.elim
 |n + 1, T, V, hG, hV => by
  obtain ⟨hgk, hsh⟩ := hG
  obtain ⟨hnul, h20, hV⟩ := hV
  have hfew := hsh.few
  have item : ∀ (t : Ty) (k : Vl), t ∈ T.kids → GoodV n t k → (itemB k.sc.nul (enc n t k)).length ≤ 4 + bnd n := fun t k ht hk => Nat.le_trans (item_len _ _) (by have := enc_len n t k (hgk t ht) hk; omega)
  unfold enc bnd
  rcases hV with ⟨hk, _, _, hs⟩ | ⟨hk, _, t, ht, hall⟩ | ⟨hk, hlen, t, t', ht, ht', hall, hall'⟩ | ⟨hk, _, hlen, hall⟩
  ·rw [if_pos hk]
   have := encS_len (kinds_lo hsh hk) hs
   omega
  ·rw [if_neg (by omega), if_pos hk, List.length_append, beN_len, getD_of ht]
   have := flat_len (fun k => itemB k.sc.nul (enc n t k)) (4 + bnd n) V.kids (fun k hk => item t k (List.mem_of_getElem? ht) (hall k hk))
   have h2 : V.kids.length * (4 + bnd n) ≤ 20 * (4 + bnd n) := Nat.mul_le_mul_right _ h20
   omega
  ·rw [if_neg (by omega), if_neg (by omega), if_pos hk, List.length_append, beN_len, getD_of ht, getD_of ht']
   have := flat_len (fun p : Vl × Vl => itemB p.1.sc.nul (enc n t p.1) ++ itemB p.2.sc.nul (enc n t' p.2)) (2 * (4 + bnd n)) (V.keys.zip V.kids) (fun p hp => by
    rw [List.length_append]
    have a1 := item t p.1 (List.mem_of_getElem? ht) (hall _ (List.of_mem_zip hp).1)
    have a2 := item t' p.2 (List.mem_of_getElem? ht') (hall' _ (List.of_mem_zip hp).2)
    omega)
   have h1 : (V.keys.zip V.kids).length ≤ 20 := by rw [List.length_zip]; omega
   have h2 : (V.keys.zip V.kids).length * (2 * (4 + bnd n)) ≤ 20 * (2 * (4 + bnd n)) := Nat.mul_le_mul_right _ h1
   omega
  ·rw [if_neg (by omega), if_neg (by omega), if_neg (by omega)]
   have := flat_len (fun p : Ty × Vl => itemB p.2.sc.nul (enc n p.1 p.2)) (4 + bnd n) (T.kids.zip V.kids) (fun p hp => by
    obtain ⟨i, hi⟩ := List.mem_iff_getElem?.1 hp
    rw [List.getElem?_zip_eq_some] at hi
    rcases hall i p.1 p.2 hi.1 hi.2 with hg | ⟨_, hn, _⟩
    ·exact item p.1 p.2 (List.mem_of_getElem? hi.1) hg
    ·rw [hn]
     simp only [itemB, if_true, beN_len]
     omega)
   have h1 : (T.kids.zip V.kids).length ≤ 10 := by rw [List.length_zip]; omega
   have h2 : (T.kids.zip V.kids).length * (4 + bnd n) ≤ 10 * (4 + bnd n) := Nat.mul_le_mul_right _ h1
   omega
#print axioms enc_len
end Go.Proofs.YtammjbmfiakbnaaGreatDoor
namespace Go.Proofs.YtammjbmfiakbnaaGreatDoor
open Go.RowKit
set_option maxRecDepth 100000 in
theorem given_1 (ks ns n f d sc mo da na kk vv : Value) (s : ByteArray)  (w : World) :
  Calls Tryz.prog 26 #[.agg #[.int .i64 1, ks, ns], .agg #[.bool false, n, f, .string s, d, sc, mo, da, na, kk, vv]] w fun e w' => e = .returned (.tuple #[.iface 9 (.string s), .bool true]) ∧ Ext w w' := by
 go_enter Tryz.func26, Tryz.ntmps26
 go_wp2_with fail
 go_ret2
 exact ⟨rfl, ((Ext.refl w).alloc _).alloc _⟩
set_option maxRecDepth 100000 in
theorem given_13 (ks ns n f d sc mo da na kk vv : Value) (s : ByteArray)  (w : World) :
  Calls Tryz.prog 26 #[.agg #[.int .i64 13, ks, ns], .agg #[.bool false, n, f, .string s, d, sc, mo, da, na, kk, vv]] w fun e w' => e = .returned (.tuple #[.iface 9 (.string s), .bool true]) ∧ Ext w w' := by
 go_enter Tryz.func26, Tryz.ntmps26
 go_wp2_with fail
 go_ret2
 exact ⟨rfl, ((Ext.refl w).alloc _).alloc _⟩
set_option maxRecDepth 100000 in
theorem given_4t (ks ns f s d sc mo da na kk vv : Value) (n : Int) (h : n = 1) (w : World) :
  Calls Tryz.prog 26 #[.agg #[.int .i64 4, ks, ns], .agg #[.bool false, .int .i64 n, f, s, d, sc, mo, da, na, kk, vv]] w fun e w' => e = .returned (.tuple #[.iface 4 (.bool true), .bool true]) ∧ Ext w w' := by
 subst h
 go_enter Tryz.func26, Tryz.ntmps26
 go_wp2_with fail
 go_quiet (fail)
 go_wp2_with fail
 go_ret2
 exact ⟨rfl, (((Ext.refl w).alloc _).alloc _).drewN _⟩
set_option maxRecDepth 100000 in
theorem given_4f (ks ns f s d sc mo da na kk vv : Value) (n : Int) (h : n = 0) (w : World) :
  Calls Tryz.prog 26 #[.agg #[.int .i64 4, ks, ns], .agg #[.bool false, .int .i64 n, f, s, d, sc, mo, da, na, kk, vv]] w fun e w' => e = .returned (.tuple #[.iface 4 (.bool false), .bool true]) ∧ Ext w w' := by
 subst h
 go_enter Tryz.func26, Tryz.ntmps26
 go_wp2_with fail
 go_quiet (fail)
 go_wp2_with fail
 go_ret2
 exact ⟨rfl, (((Ext.refl w).alloc _).alloc _).drewN _⟩
set_option maxRecDepth 100000 in
theorem given_20 (ks ns f s d sc mo da na kk vv : Value) (n : Int) (h0 : -128 ≤ n) (h1 : n ≤ 127) (w : World) :
  Calls Tryz.prog 26 #[.agg #[.int .i64 20, ks, ns], .agg #[.bool false, .int .i64 n, f, s, d, sc, mo, da, na, kk, vv]] w fun e w' => e = .returned (.tuple #[.iface 106 (.int .i8 n), .bool true]) ∧ Ext w w' := by
 go_enter Tryz.func26, Tryz.ntmps26
 go_wp2_with fail
 go_quiet (fail)
 go_wp2_with fail
 go_ret2
 exact ⟨rfl, (((Ext.refl w).alloc _).alloc _).drewN _⟩
set_option maxRecDepth 100000 in
theorem given_9 (ks ns f s d sc mo da na kk vv : Value) (n : Int) (h0 : -2147483648 ≤ n) (h1 : n ≤ 2147483647) (w : World) :
  Calls Tryz.prog 26 #[.agg #[.int .i64 9, ks, ns], .agg #[.bool false, .int .i64 n, f, s, d, sc, mo, da, na, kk, vv]] w fun e w' => e = .returned (.tuple #[.iface 21 (.int .i32 n), .bool true]) ∧ Ext w w' := by
 go_enter Tryz.func26, Tryz.ntmps26
 go_wp2_with fail
 go_quiet (fail)
 go_wp2_with fail
 go_ret2
 exact ⟨rfl, (((Ext.refl w).alloc _).alloc _).drewN _⟩
set_option maxRecDepth 100000 in
theorem given_2 (ks ns f s d sc mo da na kk vv : Value) (n : Int)  (w : World) :
  Calls Tryz.prog 26 #[.agg #[.int .i64 2, ks, ns], .agg #[.bool false, .int .i64 n, f, s, d, sc, mo, da, na, kk, vv]] w fun e w' => e = .returned (.tuple #[.iface 2 (.int .i64 n), .bool true]) ∧ Ext w w' := by
 go_enter Tryz.func26, Tryz.ntmps26
 go_wp2_with fail
 go_ret2
 exact ⟨rfl, ((Ext.refl w).alloc _).alloc _⟩
set_option maxRecDepth 100000 in
theorem given_5 (ks ns f s d sc mo da na kk vv : Value) (n : Int)  (w : World) :
  Calls Tryz.prog 26 #[.agg #[.int .i64 5, ks, ns], .agg #[.bool false, .int .i64 n, f, s, d, sc, mo, da, na, kk, vv]] w fun e w' => e = .returned (.tuple #[.iface 2 (.int .i64 n), .bool true]) ∧ Ext w w' := by
 go_enter Tryz.func26, Tryz.ntmps26
 go_wp2_with fail
 go_ret2
 exact ⟨rfl, ((Ext.refl w).alloc _).alloc _⟩
set_option maxRecDepth 100000 in
theorem given_11 (ks ns f s d sc mo da na kk vv : Value) (n : Int)  (w : World) :
  Calls Tryz.prog 26 #[.agg #[.int .i64 11, ks, ns], .agg #[.bool false, .int .i64 n, f, s, d, sc, mo, da, na, kk, vv]] w fun e w' => e = .returned (.tuple #[.iface 2 (.int .i64 n), .bool true]) ∧ Ext w w' := by
 go_enter Tryz.func26, Tryz.ntmps26
 go_wp2_with fail
 go_ret2
 exact ⟨rfl, ((Ext.refl w).alloc _).alloc _⟩
set_option maxRecDepth 100000 in
theorem given_18 (ks ns f s d sc mo da na kk vv : Value) (n : Int)  (w : World) :
  Calls Tryz.prog 26 #[.agg #[.int .i64 18, ks, ns], .agg #[.bool false, .int .i64 n, f, s, d, sc, mo, da, na, kk, vv]] w fun e w' => e = .returned (.tuple #[.iface 2 (.int .i64 n), .bool true]) ∧ Ext w w' := by
 go_enter Tryz.func26, Tryz.ntmps26
 go_wp2_with fail
 go_ret2
 exact ⟨rfl, ((Ext.refl w).alloc _).alloc _⟩
set_option maxRecDepth 100000 in
theorem given_17 (ks ns f s d sc mo da na kk vv : Value) (n : Int) (h0 : -700000 < n) (h1 : n < 2900000) (w : World) :
  Calls Tryz.prog 26 #[.agg #[.int .i64 17, ks, ns], .agg #[.bool false, .int .i64 n, f, s, d, sc, mo, da, na, kk, vv]] w fun e w' => e = .returned (.tuple #[.iface 2 (.int .i64 (n * 86400000)), .bool true]) ∧ Ext w w' := by
 have hg : decide (n < 2147483648) = true := by simp; omega
 have hg2 : decide (-2147483648 < n) = true := by simp; omega
 go_enter Tryz.func26, Tryz.ntmps26
 go_wp2_with fail
 go_quiet (fail)
 go_wp2_with fail
 go_ret2
 exact ⟨rfl, (((Ext.refl w).alloc _).alloc _).drewN _⟩
set_option maxRecDepth 100000 in
theorem given_7 (ks ns n s d sc mo da na kk vv : Value) (f : Nat)  (w : World) :
  Calls Tryz.prog 26 #[.agg #[.int .i64 7, ks, ns], .agg #[.bool false, n, .float .f64 f, s, d, sc, mo, da, na, kk, vv]] w fun e w' => e = .returned (.tuple #[.iface 26 (.float .f64 f), .bool true]) ∧ Ext w w' := by
 go_enter Tryz.func26, Tryz.ntmps26
 go_wp2_with fail
 go_ret2
 exact ⟨rfl, ((Ext.refl w).alloc _).alloc _⟩
set_option maxRecDepth 100000 in
theorem given_8 (ks ns n s d sc mo da na kk vv : Value) (f : Nat) (h : F32 f) (w : World) :
  Calls Tryz.prog 26 #[.agg #[.int .i64 8, ks, ns], .agg #[.bool false, n, .float .f64 f, s, d, sc, mo, da, na, kk, vv]] w fun e w' => e = .returned (.tuple #[.iface 77 (.float .f32 (f32v f)), .bool true]) ∧ Ext w w' := by
 have hc := (f32v_spec h).2
 have hconv : ∀ W, (convert 26 77 (.float .f64 f)).run Tryz.prog W = .ok (.float .f32 (f32v f)) W := fun W => by
  unfold convert
  simp only [Sem.run_bind, run_underlying Tryz.underlying26, run_underlying Tryz.underlying77, Result.andThen_ok]
  exact hc _ _
 clear hc
 go_enter Tryz.func26, Tryz.ntmps26
 go_wp2_with fail
 go_ret2
 exact ⟨rfl, ((Ext.refl w).alloc _).alloc _⟩
set_option maxRecDepth 100000 in
theorem given_21 (ks ns n f s d sc kk vv : Value) (mo : Int) (da : Int) (na : Int) (h0 : -2147483648 ≤ mo ∧ mo ≤ 2147483647) (h1 : -2147483648 ≤ da ∧ da ≤ 2147483647) (w : World) :
  Calls Tryz.prog 26 #[.agg #[.int .i64 21, ks, ns], .agg #[.bool false, n, f, s, d, sc, .int .i64 mo, .int .i64 da, .int .i64 na, kk, vv]] w fun e w' => e = .returned (.tuple #[.iface 125 (.agg #[.int .i32 mo, .int .i32 da, .int .i64 na]), .bool true]) ∧ Ext w w' := by
 obtain ⟨h2, h3⟩ := h0
 obtain ⟨h4, h5⟩ := h1
 go_enter Tryz.func26, Tryz.ntmps26
 go_wp2_with fail
 go_quiet (fail)
 go_wp2_with fail
 go_ret2
 exact ⟨rfl, (((Ext.refl w).alloc _).alloc _).drewN _⟩
theorem heap_alloc_new' (w : World) (o : Obj) (k : Nat) (hk : k = w.heap.size) : (w.alloc o).heap[k]? = some o := by subst hk; exact heap_alloc_new w o
theorem fresh_row {w0 w : World} {b : Nat} (hb : w.heap[b]? = some (.cells #[] 5 (0, 0))) (h0 : w0.heap.size ≤ b) : w.ownsRow w0.heap.size 5 1 (.slice (some ⟨b, 0, none⟩) 0 0) 0 [] :=
 ⟨rfl, .inr ⟨b, 0, #[], rfl, h0, hb, Nat.le_refl _, by unfold maxLen; omega, rfl, rfl⟩⟩
set_option maxRecDepth 100000 in
theorem given_3 (ks ns n f s sc mo da na kk vv : Value) (A : Option Addr) (l : List UInt8) (hl : l.length ≤ 100) (c : Nat) (w : World) (hA : Seg w A (l.map byteV)) :
  Calls Tryz.prog 26 #[.agg #[.int .i64 3, ks, ns], .agg #[.bool false, n, f, s, .slice A l.length c, sc, mo, da, na, kk, vv]] w fun e w' => ∃ g cap, e = .returned (.tuple #[.iface 27 (.slice (some ⟨g, 0, none⟩) l.length cap), .bool true]) ∧ w'.ownsRow w.heap.size 5 1 (.slice (some ⟨g, 0, none⟩) l.length cap) l.length (l.map byteV) ∧ Ext w w' := by
 have hone : ∀ v ∈ l.map byteV, v.oneCell' = true := by intro u hu; simp only [List.mem_map] at hu; obtain ⟨y, _, rfl⟩ := hu; rfl
 have Hone := Lib.hid hone
 clear hone
 rcases Nat.eq_zero_or_pos l.length with h0 | h0
 ·obtain rfl : l = [] := List.length_eq_zero_iff.1 h0
  clear hA h0 Hone
  cases A with
  |none =>
   go_enter Tryz.func26, Tryz.ntmps26
   go_wp2_with fail
   go_ret2
   refine ⟨_, _, rfl, fresh_row ?_ (by omega), ?_⟩
   ·exact heap_alloc_new' _ _ _ (by simp)
   ·exact (((Ext.refl w).alloc _).alloc _).alloc _
  |some ad =>
   go_enter Tryz.func26, Tryz.ntmps26
   go_wp2_with fail
   go_ret2
   refine ⟨_, _, rfl, fresh_row ?_ (by omega), ?_⟩
   ·exact heap_alloc_new' _ _ _ (by simp)
   ·exact (((Ext.refl w).alloc _).alloc _).alloc _
 ·obtain ⟨b, o, rfl, hb, hcells⟩ := hA (by intro e; rw [List.map_eq_nil_iff] at e; rw [e] at h0; simp at h0)
  have hlen : (l.map byteV).length = l.length := by simp
  obtain ⟨i0, hi0, hz0, hz1, hz2⟩ := info_parts info5
  generalize l.map byteV = cs at *
  have hnews : ∀ W, Ext w W → ∀ j u, cs[j]? = some u → W.cell? ((⟨b, o, none⟩ : Addr).add j) = some u := fun W he j u hu => by
   have hadd : (⟨b, o, none⟩ : Addr).add j = ⟨b, o + j, none⟩ := by unfold Addr.add; split <;> simp_all
   rw [hadd]
   exact he.cellS (hcells j u hu)
  have Hnews := Lib.hid hnews
  have Hlen := Lib.hid hlen
  clear hnews hcells hA hlen
  generalize hll : l.length = ll at *
  go_enter Tryz.func26, Tryz.ntmps26
  go_wp2_with (at_builtin; refine wpList_append_lies _ rfl _ _ _ rfl w.heap.size 5 i0 _ 1 1 Tryz.underlying27 hi0 hz0 hz1 hz2 rfl (by omega) (.slice (some ⟨w.heap.size + 1 + 1, 0, none⟩) 0 0) 0 [] rfl (fresh_row (heap_alloc_new' _ _ _ (by simp)) (by omega)) ⟨b, o, none⟩ ll c cs rfl (by rw [Hlen.out]; omega) (Hnews.out _ ((((Ext.refl w).alloc _).alloc _).alloc _)) Hone.out h0 (by unfold maxLen; omega) (by omega) (by simp; omega) (w.heap.size + 1 + 1 + 1) (by simp) ?_; intro gg cap1 w3 hown3 hgrow hat hltg)
  simp only [List.nil_append, Nat.zero_add] at hown3
  have HO := Lib.hid hown3
  have HE : Hid (Ext w w3) := Lib.hid (Ext.grown (by exact (((Ext.refl w).alloc _).alloc _).alloc _) hgrow (fun k hk => by have hk : some (w.heap.size + 1 + 1) = some k := hk; injection hk with hk; omega))
  clear hown3 hgrow hat
  go_wp2_with fail
  go_ret2
  exact ⟨gg, cap1, by simp, HO.out, HE.out⟩
set_option maxRecDepth 100000 in
theorem given_16 (ks ns n f s sc mo da na kk vv : Value) (A : Option Addr) (l : List UInt8) (hl : l.length ≤ 100) (c : Nat) (w : World) (hA : Seg w A (l.map byteV)) :
  Calls Tryz.prog 26 #[.agg #[.int .i64 16, ks, ns], .agg #[.bool false, n, f, s, .slice A l.length c, sc, mo, da, na, kk, vv]] w fun e w' => ∃ g cap, e = .returned (.tuple #[.iface 123 (.slice (some ⟨g, 0, none⟩) l.length cap), .bool true]) ∧ w'.ownsRow w.heap.size 5 1 (.slice (some ⟨g, 0, none⟩) l.length cap) l.length (l.map byteV) ∧ Ext w w' := by
 have hone : ∀ v ∈ l.map byteV, v.oneCell' = true := by intro u hu; simp only [List.mem_map] at hu; obtain ⟨y, _, rfl⟩ := hu; rfl
 have Hone := Lib.hid hone
 clear hone
 rcases Nat.eq_zero_or_pos l.length with h0 | h0
 ·obtain rfl : l = [] := List.length_eq_zero_iff.1 h0
  clear hA h0 Hone
  cases A with
  |none =>
   go_enter Tryz.func26, Tryz.ntmps26
   go_wp2_with fail
   go_ret2
   refine ⟨_, _, rfl, fresh_row ?_ (by omega), ?_⟩
   ·exact heap_alloc_new' _ _ _ (by simp)
   ·exact (((Ext.refl w).alloc _).alloc _).alloc _
  |some ad =>
   go_enter Tryz.func26, Tryz.ntmps26
   go_wp2_with fail
   go_ret2
   refine ⟨_, _, rfl, fresh_row ?_ (by omega), ?_⟩
   ·exact heap_alloc_new' _ _ _ (by simp)
   ·exact (((Ext.refl w).alloc _).alloc _).alloc _
 ·obtain ⟨b, o, rfl, hb, hcells⟩ := hA (by intro e; rw [List.map_eq_nil_iff] at e; rw [e] at h0; simp at h0)
  have hlen : (l.map byteV).length = l.length := by simp
  obtain ⟨i0, hi0, hz0, hz1, hz2⟩ := info_parts info5
  generalize l.map byteV = cs at *
  have hnews : ∀ W, Ext w W → ∀ j u, cs[j]? = some u → W.cell? ((⟨b, o, none⟩ : Addr).add j) = some u := fun W he j u hu => by
   have hadd : (⟨b, o, none⟩ : Addr).add j = ⟨b, o + j, none⟩ := by unfold Addr.add; split <;> simp_all
   rw [hadd]
   exact he.cellS (hcells j u hu)
  have Hnews := Lib.hid hnews
  have Hlen := Lib.hid hlen
  clear hnews hcells hA hlen
  generalize hll : l.length = ll at *
  go_enter Tryz.func26, Tryz.ntmps26
  go_wp2_with (at_builtin; refine wpList_append_lies _ rfl _ _ _ rfl w.heap.size 5 i0 _ 1 1 Tryz.underlying27 hi0 hz0 hz1 hz2 rfl (by omega) (.slice (some ⟨w.heap.size + 1 + 1, 0, none⟩) 0 0) 0 [] rfl (fresh_row (heap_alloc_new' _ _ _ (by simp)) (by omega)) ⟨b, o, none⟩ ll c cs rfl (by rw [Hlen.out]; omega) (Hnews.out _ ((((Ext.refl w).alloc _).alloc _).alloc _)) Hone.out h0 (by unfold maxLen; omega) (by omega) (by simp; omega) (w.heap.size + 1 + 1 + 1) (by simp) ?_; intro gg cap1 w3 hown3 hgrow hat hltg)
  simp only [List.nil_append, Nat.zero_add] at hown3
  have HO := Lib.hid hown3
  have HE : Hid (Ext w w3) := Lib.hid (Ext.grown (by exact (((Ext.refl w).alloc _).alloc _).alloc _) hgrow (fun k hk => by have hk : some (w.heap.size + 1 + 1) = some k := hk; injection hk with hk; omega))
  clear hown3 hgrow hat
  go_wp2_with fail
  go_ret2
  exact ⟨gg, cap1, by simp, HO.out, HE.out⟩
/-- The words of a big number. -/
def BigW (w : World) (b0 : Nat) (n : Int) (g : Bool) (z : Value) : Prop := ∃ l : List Nat, NatW w b0 z l ∧ l.length ≤ 41 ∧ n = (if g then -(wVal l : Int) else wVal l) ∧ (g = true → l ≠ [])
theorem NatW.weak {w : World} {b0 b1 : Nat} {v : Value} {l : List Nat} (h : NatW w b0 v l) (hb : b1 ≤ b0) : NatW w b1 v l := ⟨own_weak h.1 hb, h.2⟩
set_option maxRecDepth 100000 in
theorem given_14 (ks ns n f d sc mo da na kk vv : Value) (s : ByteArray) (hs : DigS (chs s)) (A : Addr) (w : World) (h2 : 2 < w.heap.size) (hG : w.cell? ⟨2, 0, none⟩ = some (.iface 196 (.pointer (some A)))) :
  Calls Tryz.prog 26 #[.agg #[.int .i64 14, ks, ns], .agg #[.bool false, n, f, .string s, d, sc, mo, da, na, kk, vv]] w fun e w' => ∃ g z, e = .returned (.tuple #[.iface 114 (.agg #[.bool g, z]), .bool true]) ∧ BigW w' w.heap.size (numOf (chs s)) g z ∧ Ext w w' := by
 have hc := fun W (he : Ext w W) => wholeBig_any s hs A W (by have := he.size; omega) (he.cellS hG)
 have Hc := Lib.hid hc
 clear hc hs hG
 go_enter Tryz.func26, Tryz.ntmps26
 go_wp2_with fail
 have hE : ∀ W, W = (w.alloc (.cells #[.int .i64 14, ks, ns] 25)).alloc (.cells #[.bool false, n, f, .string s, d, sc, mo, da, na, kk, vv] 30) → Ext w W ∧ W.heap.size = w.heap.size + 1 + 1 := by rintro W rfl; exact ⟨((Ext.refl w).alloc _).alloc _, by simp⟩
 refine (Hc.out _ (hE _ rfl).1).mono ?_
 rintro e w1 ⟨rfl, ⟨z, l, g, hB0, hB, hz, hl, hn, hg⟩, hE1⟩
 rw [(hE _ rfl).2] at hB hz
 obtain ⟨c0, c1⟩ := hB.c2
 have HE : Hid (Ext w w1) := Lib.hid ((hE _ rfl).1.trans hE1)
 have HZ : Hid (BigW w1 w.heap.size (numOf (chs s)) g z) := Lib.hid ⟨l, hz.weak (by omega), hl, hn, hg⟩
 clear hz hl hn hg hB hB0 hE hE1 Hc
 go_wp2_with fail
 go_ret2
 exact ⟨g, z, rfl, HZ.out, HE.out⟩
set_option maxRecDepth 100000 in
set_option maxHeartbeats 2000000 in
theorem given_6 (ks ns n f d mo da na kk vv : Value) (s : ByteArray) (hs : DigS (chs s)) (sc : Int) (hsc : -1000 < sc ∧ sc < 1000) (A : Addr) (w : World) (h2 : 2 < w.heap.size) (hG : w.cell? ⟨2, 0, none⟩ = some (.iface 196 (.pointer (some A)))) :
  Calls Tryz.prog 26 #[.agg #[.int .i64 6, ks, ns], .agg #[.bool false, n, f, .string s, d, .int .i64 sc, mo, da, na, kk, vv]] w fun e w' => ∃ g z, e = .returned (.tuple #[.iface 116 (.agg #[.bool g, z, .int .i32 sc]), .bool true]) ∧ BigW w' w.heap.size (numOf (chs s)) g z ∧ Ext w w' := by
 have hc := fun W (he : Ext w W) => wholeBig_any s hs A W (by have := he.size; omega) (he.cellS hG)
 have Hc := Lib.hid hc
 obtain ⟨h0, h1⟩ := hsc
 clear hc hs hG
 go_enter Tryz.func26, Tryz.ntmps26
 go_wp2_with fail
 have hE : ∀ W, W = (w.alloc (.cells #[.int .i64 6, ks, ns] 25)).alloc (.cells #[.bool false, n, f, .string s, d, .int .i64 sc, mo, da, na, kk, vv] 30) → Ext w W ∧ W.heap.size = w.heap.size + 1 + 1 ∧ Blk W (w.heap.size + 1) 30 #[.bool false, n, f, .string s, d, .int .i64 sc, mo, da, na, kk, vv] := by
  rintro W rfl
  exact ⟨((Ext.refl w).alloc _).alloc _, by simp, Blk.new' _ _ 30 _ (by simp)⟩
 refine (Hc.out _ (hE _ rfl).1).mono ?_
 rintro e w1 ⟨rfl, hB, hE1⟩
 obtain ⟨c0, c1, c2, c3, c4, c5, c6, c7, c8, c9, c10⟩ := ((hE _ rfl).2.2.ext hE1).c11
 rw [(hE _ rfl).2.1] at hB
 have hd := newDec_any _ _ _ sc w1 hB
 have HD := Lib.hid hd
 have HE : Hid (Ext w w1) := Lib.hid ((hE _ rfl).1.trans hE1)
 have hsz : w.heap.size ≤ w1.heap.size := HE.out.size
 clear hd hB hE hE1 Hc
 go_wp2_with fail
 refine HD.out.mono ?_
 rintro e w2 ⟨rfl, z, l, g, hB, hz, hl, hn, hg, hE2⟩
 obtain ⟨d0, d1, d2⟩ := hB.c3
 have HE2 : Hid (Ext w w2) := Lib.hid (HE.out.trans hE2)
 have HZ : Hid (BigW w2 w.heap.size (numOf (chs s)) g z) := Lib.hid ⟨l, hz.weak (by omega), hl, hn, hg⟩
 clear hz hl hn hg hB hE2
 go_wp2_with fail
 go_ret2
 exact ⟨g, z, rfl, HZ.out, HE2.out⟩
set_option maxRecDepth 100000 in
theorem given_12 (ks ns n f s sc mo da na kk vv : Value) (A : Option Addr) (l : List UInt8) (hl : l.length = 16) (c : Nat) (w : World) (hA : Seg w A (l.map byteV)) :
  Calls Tryz.prog 26 #[.agg #[.int .i64 12, ks, ns], .agg #[.bool false, n, f, s, .slice A 16 c, sc, mo, da, na, kk, vv]] w fun e w' => e = .returned (.tuple #[.iface 120 (.agg (l.map byteV).toArray), .bool true]) ∧ Ext w w' := by
 have hc := fun W (he : Ext w W) => uuid_any A c l hl W (hA.ext he)
 have Hc := Lib.hid hc
 have hcl : (l.map byteV).length = 16 := by simp [hl]
 have hone : ∀ v ∈ l.map byteV, v.oneCell' = true := by intro u hu; simp only [List.mem_map] at hu; obtain ⟨y, _, rfl⟩ := hu; rfl
 have Hone := Lib.hid hone
 clear hc hA hone
 generalize l.map byteV = cs at *
 go_enter Tryz.func26, Tryz.ntmps26
 go_wp2_with fail
 have hE : ∀ W, W = (w.alloc (.cells #[.int .i64 12, ks, ns] 25)).alloc (.cells #[.bool false, n, f, s, .slice A 16 c, sc, mo, da, na, kk, vv] 30) → Ext w W := by rintro W rfl; exact ((Ext.refl w).alloc _).alloc _
 refine (Hc.out _ (hE _ rfl)).mono ?_
 rintro e w1 ⟨rfl, hE1⟩
 have HE : Hid (Ext w w1) := Lib.hid ((hE _ rfl).trans hE1)
 clear hE hE1 Hc
 have hth : (w1.alloc (.cells Z16 120)).there w1.heap.size 0 cs.toArray.size := (Blk.new w1 120 Z16).there (by simp [hcl])
 have hsz : (Tryz.prog.info? 120).map (·.size) = some cs.toArray.size := by rw [List.size_toArray, hcl]; exact size120
 have hal := all_oneCell_toArray Hone.out
 have Hth := Lib.hid hth
 have Hsz := Lib.hid hsz
 have Hal := Lib.hid hal
 clear hth hsz hal
 go_wp2_with (first | (refine wpList_store_mid (op := ⟨none, .store 120 _ _, _, _, _, _⟩) rfl 120 _ _ rfl w1.heap.size 0 cs.toArray (by rfl) (by rfl) Hth.out Hsz.out Hal.out ?_))
 generalize hW1 : World.setCells _ _ _ _ = W1
 have h1 : W1.rangeAt w1.heap.size 0 cs ∧ Ext w W1 := by
  rw [← hW1]
  exact ⟨Blk.range (Blk.setCells (old := Z16.toList) (Blk.new w1 120 Z16) (by simp [hcl])), (HE.out.alloc _).setCells HE.out.size _⟩
 clear hW1
 obtain ⟨h1, hE1⟩ := h1
 refine wp_region_K (fun w' => w'.rangeAt w1.heap.size 0 cs) (ix [0]) 6 [false, false, false, false, false, false] (by kernel_rfl) rfl rfl ?_
 refine fV 2 (v := ?v41Ux2) rfl (by rfl) ?y41Ux2 ?_
 case y41Ux2 => intro w; go_simp; with_reducible rfl
 simp only [aP, aN, aT, aZ, aS]
 refine fV 3 (v := ?v41Ux3) rfl (by rfl) ?y41Ux3 ?_
 case y41Ux3 => intro w; go_simp; with_reducible rfl
 simp only [aP, aN, aT, aZ, aS]
 refine tG 0 (ix [1, 4, 5]) rfl h1 (yieldsIf_load_mid (by rfl) 120 _ rfl w1.heap.size 0 (by rfl) cs _ (fun w' h => h) Tryz.underlying120 rfl (by rw [hcl]; exact size120)) ?_
 simp only [aP, aN, aT, aZ, aS]
 refine fV 1 (v := ?v41Ux1) rfl (by rfl) ?y41Ux1 ?_
 case y41Ux1 => intro w; go_simp; with_reducible rfl
 simp only [aP, aN, aT, aZ, aS]
 refine fV 4 (v := ?v41Ux4) rfl (by rfl) ?y41Ux4 ?_
 case y41Ux4 => intro w; go_simp; with_reducible rfl
 simp only [aP, aN, aT, aZ, aS]
 refine fV 5 (v := ?v41Ux5) rfl (by rfl) ?y41Ux5 ?_
 case y41Ux5 => intro w; go_simp; with_reducible rfl
 simp only [aP, aN, aT, aZ, aS]
 refine wpAnyK_done (by kernel_rfl) ?_ _
 go_wp2_with fail
 go_ret2
 exact ⟨rfl, hE1.drew⟩
set_option maxRecDepth 100000 in
theorem given_15 (ks ns n f s sc mo da na kk vv : Value) (A : Option Addr) (l : List UInt8) (hl : l.length = 16) (c : Nat) (w : World) (hA : Seg w A (l.map byteV)) :
  Calls Tryz.prog 26 #[.agg #[.int .i64 15, ks, ns], .agg #[.bool false, n, f, s, .slice A 16 c, sc, mo, da, na, kk, vv]] w fun e w' => e = .returned (.tuple #[.iface 120 (.agg (l.map byteV).toArray), .bool true]) ∧ Ext w w' := by
 have hc := fun W (he : Ext w W) => uuid_any A c l hl W (hA.ext he)
 have Hc := Lib.hid hc
 have hcl : (l.map byteV).length = 16 := by simp [hl]
 have hone : ∀ v ∈ l.map byteV, v.oneCell' = true := by intro u hu; simp only [List.mem_map] at hu; obtain ⟨y, _, rfl⟩ := hu; rfl
 have Hone := Lib.hid hone
 clear hc hA hone
 generalize l.map byteV = cs at *
 go_enter Tryz.func26, Tryz.ntmps26
 go_wp2_with fail
 have hE : ∀ W, W = (w.alloc (.cells #[.int .i64 15, ks, ns] 25)).alloc (.cells #[.bool false, n, f, s, .slice A 16 c, sc, mo, da, na, kk, vv] 30) → Ext w W := by rintro W rfl; exact ((Ext.refl w).alloc _).alloc _
 refine (Hc.out _ (hE _ rfl)).mono ?_
 rintro e w1 ⟨rfl, hE1⟩
 have HE : Hid (Ext w w1) := Lib.hid ((hE _ rfl).trans hE1)
 clear hE hE1 Hc
 have hth : (w1.alloc (.cells Z16 120)).there w1.heap.size 0 cs.toArray.size := (Blk.new w1 120 Z16).there (by simp [hcl])
 have hsz : (Tryz.prog.info? 120).map (·.size) = some cs.toArray.size := by rw [List.size_toArray, hcl]; exact size120
 have hal := all_oneCell_toArray Hone.out
 have Hth := Lib.hid hth
 have Hsz := Lib.hid hsz
 have Hal := Lib.hid hal
 clear hth hsz hal
 go_wp2_with (first | (refine wpList_store_mid (op := ⟨none, .store 120 _ _, _, _, _, _⟩) rfl 120 _ _ rfl w1.heap.size 0 cs.toArray (by rfl) (by rfl) Hth.out Hsz.out Hal.out ?_))
 generalize hW1 : World.setCells _ _ _ _ = W1
 have h1 : W1.rangeAt w1.heap.size 0 cs ∧ Ext w W1 := by
  rw [← hW1]
  exact ⟨Blk.range (Blk.setCells (old := Z16.toList) (Blk.new w1 120 Z16) (by simp [hcl])), (HE.out.alloc _).setCells HE.out.size _⟩
 clear hW1
 obtain ⟨h1, hE1⟩ := h1
 refine wp_region_K (fun w' => w'.rangeAt w1.heap.size 0 cs) (ix [0]) 6 [false, false, false, false, false, false] (by kernel_rfl) rfl rfl ?_
 refine fV 2 (v := ?v41Ux2) rfl (by rfl) ?y41Ux2 ?_
 case y41Ux2 => intro w; go_simp; with_reducible rfl
 simp only [aP, aN, aT, aZ, aS]
 refine fV 3 (v := ?v41Ux3) rfl (by rfl) ?y41Ux3 ?_
 case y41Ux3 => intro w; go_simp; with_reducible rfl
 simp only [aP, aN, aT, aZ, aS]
 refine tG 0 (ix [1, 4, 5]) rfl h1 (yieldsIf_load_mid (by rfl) 120 _ rfl w1.heap.size 0 (by rfl) cs _ (fun w' h => h) Tryz.underlying120 rfl (by rw [hcl]; exact size120)) ?_
 simp only [aP, aN, aT, aZ, aS]
 refine fV 1 (v := ?v41Ux1) rfl (by rfl) ?y41Ux1 ?_
 case y41Ux1 => intro w; go_simp; with_reducible rfl
 simp only [aP, aN, aT, aZ, aS]
 refine fV 4 (v := ?v41Ux4) rfl (by rfl) ?y41Ux4 ?_
 case y41Ux4 => intro w; go_simp; with_reducible rfl
 simp only [aP, aN, aT, aZ, aS]
 refine fV 5 (v := ?v41Ux5) rfl (by rfl) ?y41Ux5 ?_
 case y41Ux5 => intro w; go_simp; with_reducible rfl
 simp only [aP, aN, aT, aZ, aS]
 refine wpAnyK_done (by kernel_rfl) ?_ _
 go_wp2_with fail
 go_ret2
 exact ⟨rfl, hE1.drew⟩
end Go.Proofs.YtammjbmfiakbnaaGreatDoor
namespace Go.Proofs.YtammjbmfiakbnaaGreatDoor
open Go.RowKit
/-- A row of bytes with room. -/
def DatR (X : Nat → Prop) (w : World) (v : Value) (l : List UInt8) : Prop := ∃ b o c, v = .slice (some ⟨b, o, none⟩) l.length c ∧ c ≤ maxLen ∧ ¬ X b ∧ Out l v w
/-- The words of a big number, to be read. -/
def BigR (X : Nat → Prop) (w : World) (n : Int) (g : Bool) (z : Value) : Prop :=
 ∃ A c, ∃ l : List Nat, z = .slice A l.length c ∧ l.length ≤ c ∧ c ≤ maxLen ∧ SegR X w A (l.map wd) ∧ (∀ a ∈ l, a < 18446744073709551616) ∧ Nrm l ∧ l.length ≤ 41 ∧ n = (if g then -(wVal l : Int) else wVal l) ∧ (g = true → l ≠ [])
/-- A map gives these values at these names. -/
def MapR (X : Nat → Prop) (w : World) (b : Nat) (ns : List ByteArray) (gs : List Value) : Prop :=
 ¬ X b ∧ b < w.heap.size ∧ ∀ (i : Nat) (s : ByteArray) (g : Value), ns[i]? = some s → gs[i]? = some g → ∀ W : World, W.heap[b]? = w.heap[b]? → (Instr.lookup 152 (.map (some b)) (.string s) true).run Tryz.prog W = .ok (.tuple #[g, .bool true]) W
/-- A value that holds no others. -/
def GivS (X : Nat → Prop) (w : World) (k : Int) (s : Sc) (G : Value) : Prop :=
 ((k = 1 ∨ k = 13) ∧ G = .iface 9 (.string s.text)) ∨ (k = 3 ∧ ∃ v, G = .iface 27 v ∧ DatR X w v s.data) ∨ (k = 16 ∧ ∃ v, G = .iface 123 v ∧ DatR X w v s.data) ∨
 (k = 4 ∧ G = .iface 4 (.bool (s.n == 1))) ∨ (k = 20 ∧ G = .iface 106 (.int .i8 s.n)) ∨ (k = 19 ∧ G = .iface 107 (.int .i16 s.n)) ∨ (k = 9 ∧ G = .iface 21 (.int .i32 s.n)) ∨
 ((k = 2 ∨ k = 5 ∨ k = 11 ∨ k = 18) ∧ G = .iface 2 (.int .i64 s.n)) ∨ (k = 17 ∧ G = .iface 2 (.int .i64 (s.n * 86400000))) ∨ (k = 8 ∧ G = .iface 77 (.float .f32 (f32v s.f))) ∨ (k = 7 ∧ G = .iface 26 (.float .f64 s.f)) ∨
 (k = 14 ∧ ∃ g z, G = .iface 114 (.agg #[.bool g, z]) ∧ BigR X w (numOf (chs s.text)) g z) ∨ (k = 6 ∧ ∃ g z, G = .iface 116 (.agg #[.bool g, z, .int .i32 s.scale]) ∧ BigR X w (numOf (chs s.text)) g z) ∨
 ((k = 12 ∨ k = 15) ∧ G = .iface 120 (.agg (s.data.map byteV).toArray)) ∨ (k = 21 ∧ G = .iface 125 (.agg #[.int .i32 s.months, .int .i32 s.days, .int .i64 s.nanos]))
/-- A value as the package has it, outside of a set of blocks. -/
def GivenAt (X : Nat → Prop) : Nat → World → Value → Ty → Vl → Prop
 |0, _, _, _, _ => False
 |n + 1, w, G, T, V => (V.sc.nul = true ∧ G = .nilIface) ∨ (V.sc.nul = false ∧
  ((T.kind < 32 ∧ GivS X w T.kind V.sc G) ∨
   ((T.kind = 32 ∨ T.kind = 34) ∧ ∃ A c gs, G = .iface 151 (.slice (some A) V.kids.length c) ∧ V.kids.length ≤ c ∧ c ≤ maxLen ∧ gs.length = V.kids.length ∧ SegR X w (some A) gs ∧ ∀ (i : Nat) (k : Vl), V.kids[i]? = some k → ∃ g, gs[i]? = some g ∧ GivenAt X n w g (T.kids.getD 0 Ty.bad) k) ∨
   (T.kind = 33 ∧ ∃ A c gs, G = .iface 148 (.slice (some A) V.keys.length c) ∧ V.keys.length ≤ c ∧ c ≤ maxLen ∧ gs.length = V.keys.length * 2 ∧ SegR X w (some A) gs ∧
    ∀ (i : Nat) (a b : Vl), V.keys[i]? = some a → V.kids[i]? = some b → ∃ g g', gs[i * 2]? = some g ∧ gs[i * 2 + 1]? = some g' ∧ GivenAt X n w g (T.kids.getD 0 Ty.bad) a ∧ GivenAt X n w g' (T.kids.getD 1 Ty.bad) b) ∨
   (T.kind = 49 ∧ ∃ A c gs, G = .iface 151 (.slice (some A) V.kids.length c) ∧ V.kids.length ≤ c ∧ c ≤ maxLen ∧ gs.length = V.kids.length ∧ SegR X w (some A) gs ∧ ∀ (i : Nat) (t : Ty) (k : Vl), T.kids[i]? = some t → V.kids[i]? = some k → ∃ g, gs[i]? = some g ∧ GivenAt X n w g t k) ∨
   (T.kind = 48 ∧ ∃ b gs, G = .iface 152 (.map (some b)) ∧ gs.length = V.kids.length ∧ MapR X w b T.names gs ∧ ∀ (i : Nat) (t : Ty) (k : Vl), T.kids[i]? = some t → V.kids[i]? = some k → ∃ g, gs[i]? = some g ∧ GivenAt X n w g t k)))
/-- What a change of worlds must keep. -/
structure Trans (X X' : Nat → Prop) (w w' : World) : Prop where
 seg : ∀ A xs, SegR X w A xs → SegR X' w' A xs
 map : ∀ b ns gs, MapR X w b ns gs → MapR X' w' b ns gs
 dat : ∀ v l, DatR X w v l → DatR X' w' v l
theorem DatR.onx {X : Nat → Prop} {w w' : World} (ho : Onx X w w') {v : Value} {l : List UInt8} (h : DatR X w v l) : DatR X w' v l := by
 obtain ⟨b, o, c, rfl, hc, hx, b', o', c', cs, t, fr, e, h1, hb, h2, h3, hl⟩ := h
 injection e with e1 e2 e3
 injection e1 with e1
 injection e1 with e1 e4
 subst e1; subst e3; subst e4
 exact ⟨b, o, c, rfl, hc, hx, b, o, c, cs, t, fr, rfl, h1, (ho.2 b (Array.getElem?_eq_some_iff.1 hb).1 hx).trans hb, h2, h3, hl⟩
theorem DatR.weak {X X' : Nat → Prop} {w : World} (hx : ∀ b, X' b → X b ∨ w.heap.size ≤ b) {v : Value} {l : List UInt8} (h : DatR X w v l) : DatR X' w v l := by
 obtain ⟨b, o, c, rfl, hc, hxb, hO⟩ := h
 refine ⟨b, o, c, rfl, hc, fun hX => (hx b hX).elim hxb (fun hge => ?_), hO⟩
 obtain ⟨b', o', c', cs, t, fr, e, h1, hb, _⟩ := hO
 injection e with e1
 injection e1 with e1
 injection e1 with e1
 subst e1
 have := (Array.getElem?_eq_some_iff.1 hb).1
 omega
theorem Trans.onx {X : Nat → Prop} {w w' : World} (ho : Onx X w w') : Trans X X w w' :=
 ⟨fun _ _ h => h.onx ho, fun b ns gs ⟨h1, h2, h3⟩ => ⟨h1, Nat.lt_of_lt_of_le h2 ho.1, fun i s g hs hg W hW => h3 i s g hs hg W (hW.trans (ho.2 b h2 h1))⟩, fun _ _ h => h.onx ho⟩
theorem Trans.weak {X X' : Nat → Prop} {w : World} (hx : ∀ b, X' b → X b ∨ w.heap.size ≤ b) : Trans X X' w w :=
 ⟨fun _ _ h => h.weak hx, fun b ns gs ⟨h1, h2, h3⟩ => ⟨fun h => (hx b h).elim h1 (fun h => by omega), h2, h3⟩, fun _ _ h => h.weak hx⟩
theorem DatR.trans {X X' : Nat → Prop} {w w' : World} (t : Trans X X' w w') {v : Value} {l : List UInt8} (h : DatR X w v l) : DatR X' w' v l := t.dat _ _ h
theorem BigR.trans {X X' : Nat → Prop} {w w' : World} (t : Trans X X' w w') {n : Int} {g : Bool} {z : Value} (h : BigR X w n g z) : BigR X' w' n g z := by
 obtain ⟨A, c, l, h1, h2, h3, h4, h5⟩ := h
 exact ⟨A, c, l, h1, h2, h3, t.seg _ _ h4, h5⟩
theorem GivS.trans {X X' : Nat → Prop} {w w' : World} (t : Trans X X' w w') {k : Int} {s : Sc} {G : Value} (h : GivS X w k s G) : GivS X' w' k s G := by
 rcases h with h | ⟨h, v, h1, h2⟩ | ⟨h, v, h1, h2⟩ | h | h | h | h | h | h | h | h | ⟨h, g, z, h1, h2⟩ | ⟨h, g, z, h1, h2⟩ | h | h
 ·exact .inl h
 ·exact .inr (.inl ⟨h, v, h1, h2.trans t⟩)
 ·exact .inr (.inr (.inl ⟨h, v, h1, h2.trans t⟩))
 ·exact .inr (.inr (.inr (.inl h)))
 ·exact .inr (.inr (.inr (.inr (.inl h))))
 ·exact .inr (.inr (.inr (.inr (.inr (.inl h)))))
 ·exact .inr (.inr (.inr (.inr (.inr (.inr (.inl h))))))
 ·exact .inr (.inr (.inr (.inr (.inr (.inr (.inr (.inl h)))))))
 ·exact .inr (.inr (.inr (.inr (.inr (.inr (.inr (.inr (.inl h))))))))
 ·exact .inr (.inr (.inr (.inr (.inr (.inr (.inr (.inr (.inr (.inl h)))))))))
 ·exact .inr (.inr (.inr (.inr (.inr (.inr (.inr (.inr (.inr (.inr (.inl h))))))))))
 ·exact .inr (.inr (.inr (.inr (.inr (.inr (.inr (.inr (.inr (.inr (.inr (.inl ⟨h, g, z, h1, h2.trans t⟩)))))))))))
 ·exact .inr (.inr (.inr (.inr (.inr (.inr (.inr (.inr (.inr (.inr (.inr (.inr (.inl ⟨h, g, z, h1, h2.trans t⟩))))))))))))
 ·exact .inr (.inr (.inr (.inr (.inr (.inr (.inr (.inr (.inr (.inr (.inr (.inr (.inr (.inl h)))))))))))))
 ·exact .inr (.inr (.inr (.inr (.inr (.inr (.inr (.inr (.inr (.inr (.inr (.inr (.inr (.inr h)))))))))))))
theorem GivenAt.trans {X X' : Nat → Prop} {w w' : World} (t : Trans X X' w w') : ∀ (n : Nat) (G : Value) (T : Ty) (V : Vl), GivenAt X n w G T V → GivenAt X' n w' G T V
 |0, _, _, _, h => h
 |n + 1, G, T, V, h => by
  rcases h with h | ⟨hn, h⟩
  ·exact .inl h
  ·refine .inr ⟨hn, ?_⟩
   rcases h with ⟨h, h1⟩ | ⟨h, A, c, gs, h1, h2, h3, h4, h5, h6⟩ | ⟨h, A, c, gs, h1, h2, h3, h4, h5, h6⟩ | ⟨h, A, c, gs, h1, h2, h3, h4, h5, h6⟩ | ⟨h, b, gs, h1, h2, h3, h4⟩
   ·exact .inl ⟨h, h1.trans t⟩
   ·refine .inr (.inl ⟨h, A, c, gs, h1, h2, h3, h4, t.seg _ _ h5, fun i k hk => ?_⟩)
    obtain ⟨g, e, hg⟩ := h6 i k hk
    exact ⟨g, e, GivenAt.trans t n _ _ _ hg⟩
   ·refine .inr (.inr (.inl ⟨h, A, c, gs, h1, h2, h3, h4, t.seg _ _ h5, fun i a b ha hb => ?_⟩))
    obtain ⟨g, g', e, e', hg, hg'⟩ := h6 i a b ha hb
    exact ⟨g, g', e, e', GivenAt.trans t n _ _ _ hg, GivenAt.trans t n _ _ _ hg'⟩
   ·refine .inr (.inr (.inr (.inl ⟨h, A, c, gs, h1, h2, h3, h4, t.seg _ _ h5, fun i ty k ht hk => ?_⟩)))
    obtain ⟨g, e, hg⟩ := h6 i ty k ht hk
    exact ⟨g, e, GivenAt.trans t n _ _ _ hg⟩
   ·refine .inr (.inr (.inr (.inr ⟨h, b, gs, h1, h2, t.map _ _ _ h3, fun i ty k ht hk => ?_⟩)))
    obtain ⟨g, e, hg⟩ := h4 i ty k ht hk
    exact ⟨g, e, GivenAt.trans t n _ _ _ hg⟩
theorem GivenAt.rel (n : Nat) (G : Value) (T : Ty) (V : Vl) : Rel (fun X w => GivenAt X n w G T V) := ⟨fun _ _ _ ho h => GivenAt.trans (Trans.onx ho) n G T V h, fun _ _ _ hx h => GivenAt.trans (Trans.weak hx) n G T V h⟩
/-- What lies below. -/
abbrev Bel (m : Nat) (b : Nat) : Prop := b < m
theorem own_segR {w : World} {b0 n : Nat} {e : TypeId} {A : Option Addr} {m c : Nat} {xs : List Value} (h : w.ownsRow b0 e 1 (.slice A m c) n xs) : SegR (Bel b0) w A xs := fun hn => by
 obtain ⟨hl, h⟩ := h
 rcases h with ⟨_, h0⟩ | ⟨g, cap, cur, hv, hb, hg, hc, hm, hs, ht⟩
 ·rw [h0] at hl
  exact absurd (List.length_eq_zero_iff.1 (by omega)) hn
 ·injection hv with hv
  subst hv
  refine ⟨g, 0, rfl, (Array.getElem?_eq_some_iff.1 hg).1, fun h : g < b0 => by omega, fun j u hu => ?_⟩
  rw [Nat.zero_add]
  have hj := (List.getElem?_eq_some_iff.1 hu).1
  simp only [World.cell?, hg]
  rw [← ht] at hu
  rw [List.getElem?_take] at hu
  split at hu
  ·simpa using hu
  ·cases hu
theorem BigW.toR {w : World} {b0 : Nat} {n : Int} {g : Bool} {z : Value} (h : BigW w b0 n g z) : BigR (Bel b0) w n g z := by
 obtain ⟨l, ⟨h1, h2, h3⟩, h4, h5, h6⟩ := h
 obtain ⟨A, c, rfl, hc⟩ := ownB_slice h1
 exact ⟨A, c, l, rfl, hc, own_cap h1, own_segR h1, h2, h3, h4, h5, h6⟩
theorem own_datR {w : World} {b0 g c : Nat} {l : List UInt8} (h : w.ownsRow b0 5 1 (.slice (some ⟨g, 0, none⟩) l.length c) l.length (l.map byteV)) : DatR (Bel b0) w (.slice (some ⟨g, 0, none⟩) l.length c) l := by
 have hb := own_bounds h
 refine ⟨g, 0, c, rfl, hb.2.2.2, fun hx => by have : g < b0 := hx; omega, ?_⟩
 rcases h.2 with ⟨h, _⟩ | ⟨g', cap', cur, hv, _, hg, hc, _, _, ht⟩
 ·cases h
 ·injection hv with hv1 hv2 hv3; injection hv1 with hv1; injection hv1 with hv1; subst hv1; subst hv3
  exact Out.of_blk hg (by decide) (by decide) rfl hc (by simpa using ht)
/-- What given answers. -/
def GivPost (n : Nat) (T : Ty) (V : Vl) (w : World) (e : Ending) (w' : World) : Prop :=
 ∃ G, e = .returned (.tuple #[G, .bool true]) ∧ GivenAt (Bel w.heap.size) n w' G T V ∧ Ext w w'
end Go.Proofs.YtammjbmfiakbnaaGreatDoor
