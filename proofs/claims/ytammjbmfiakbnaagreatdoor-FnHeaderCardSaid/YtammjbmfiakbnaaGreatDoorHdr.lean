/-
  A header read back: Buffer's Read, readFull, readHeader, zzHeader, ZZReadHeader, ParseHeader. Conditions: the bytes are at hand, nine of them at the least.
-/
import Derived.Test.YtammjbmfiakbnaaGreatDoorWr
import Derived.Test.YtammjbmfiakbnaaGreatDoorQuiet
import Derived.Laws.CopyOwn
import Derived.Deep.RegionWith
import Derived.LoopN
namespace Go.Proofs.YtammjbmfiakbnaaGreatDoor
open Go.RowKit

theorem me_136_Read (p : Addr) (W : World) : (method 461 136 (.pointer (some p)) "Read").run Tryz.prog W = .ok (268, .pointer (some p)) W := by kernel_rfl
theorem na_136_Read (p : Addr) (W : World) : (nilAhead 461 136 (.pointer (some p)) "Read").run Tryz.prog W = .ok (some false) W := by kernel_rfl

/-- A reader's variable B: it stands ahead of the bytes l, that lie in block d. -/
def Src (w : World) (B d : Nat) (l : List UInt8) : Prop :=
  ∃ o c, Blk w B 138 #[.slice (some ⟨d, o, none⟩) l.length c] ∧ l.length ≤ c ∧ d ≠ B ∧ d < w.heap.size ∧ ∀ j u, (l.map byteV)[j]? = some u → w.cell? ⟨d, o + j, none⟩ = some u

theorem Src.ext {w w1 : World} {B d : Nat} {l : List UInt8} (h : Src w B d l) (he : Ext w w1) : Src w1 B d l := by
  obtain ⟨o, c, hB, hc, hdB, hdl, hcell⟩ := h
  exact ⟨o, c, hB.ext he, hc, hdB, Nat.lt_of_lt_of_le hdl he.size, fun j u hu => he.cellS (hcell j u hu)⟩

/-- Only the blocks B and P may differ. -/
def Two (w w' : World) (B P : Nat) : Prop :=
  w'.os = w.os ∧ w'.tape = w.tape ∧ w'.output = w.output ∧ w'.heap.size = w.heap.size ∧ ∀ k, k ≠ B → k ≠ P → w'.heap[k]? = w.heap[k]?

theorem drop_map (l : List UInt8) (m j : Nat) : ((l.drop m).map byteV)[j]? = (l.map byteV)[m + j]? := by simp

theorem read_end {w w1 : World} {B d P o o' c c' m : Nat} {l : List UInt8} (hB1 : Blk w1 B 138 #[.slice (some ⟨d, o, none⟩) l.length c]) (hdB : d ≠ B) (hdl : d < w.heap.size) (hBP : B ≠ P) {xs : Array Value} (hP1 : Blk w1 P 5 xs)
    (hcell1 : ∀ j u, (l.map byteV)[j]? = some u → w1.cell? ⟨d, o + j, none⟩ = some u) (hw1 : ∀ k, k ≠ P → w1.heap[k]? = w.heap[k]?) (hs : w1.heap.size = w.heap.size) (hos : w1.os = w.os ∧ w1.tape = w.tape ∧ w1.output = w.output)
    (hc : l.length - m ≤ c') (ho : o' = o + m ∨ l.length ≤ m) :
    Src (w1.setCell ⟨B, 0, none⟩ (.slice (some ⟨d, o', none⟩) (l.length - m) c')) B d (l.drop m) ∧ Blk (w1.setCell ⟨B, 0, none⟩ (.slice (some ⟨d, o', none⟩) (l.length - m) c')) P 5 xs ∧
      Two w (w1.setCell ⟨B, 0, none⟩ (.slice (some ⟨d, o', none⟩) (l.length - m) c')) B P := by
  have hset := hB1.set_ 0 (.slice (some ⟨d, o', none⟩) (l.length - m) c')
  refine ⟨⟨o', c', by simpa using hset, by simpa using hc, hdB, by simpa [World.setCell] using hs ▸ hdl, fun j u hu => ?_⟩, hP1.off (by omega) _, hos.1, hos.2.1, hos.2.2, by simpa [World.setCell] using hs, fun k hk hkP => ?_⟩
  · rw [World.cell?_of_block (a := ⟨d, o' + j, none⟩) (Below.heap_setCell _ ⟨B, 0, none⟩ _ d hdB)]
    rcases ho with rfl | hle
    · rw [drop_map] at hu
      rw [Nat.add_assoc]
      exact hcell1 _ u hu
    · rw [List.drop_eq_nil_of_le hle] at hu
      cases hu
  · rw [Below.heap_setCell _ ⟨B, 0, none⟩ _ k hk]
    exact hw1 k hkP

set_option maxRecDepth 100000 in
theorem read_any (B d P po m pc : Nat) (l : List UInt8) (cs : List Value) (hm : 0 < m) (hml : m ≤ l.length) (hpo : po + m ≤ cs.length) (hdP : d ≠ P) (w : World) (h : Src w B d l) (hP : Blk w P 5 cs.toArray) :
    Calls Tryz.prog 268 #[.pointer (some ⟨B, 0, none⟩), .slice (some ⟨P, po, none⟩) m pc] w fun e w' => e = .returned (.tuple #[.int .i64 m, .nilIface]) ∧
      Src w' B d (l.drop m) ∧ Blk w' P 5 (cs.take po ++ (l.take m).map byteV ++ cs.drop (po + m)).toArray ∧ Two w w' B P := by
  obtain ⟨o, c, hB, hc, hdB, hdl, hcell⟩ := h
  have hBP : B ≠ P := Blk.ne hB hP (by decide)
  obtain ⟨c0, f0⟩ := hB.c1
  have hcp : ∀ ty, (Builtin.copy_ #[27, 27] ty #[.slice (some ⟨P, po, none⟩) m pc, .slice (some ⟨d, o, none⟩) l.length c]).run Tryz.prog w = .ok (.int .i64 m) (w.setRow P (cs.take po ++ (l.take m).map byteV ++ cs.drop (po + m)).toArray) := fun ty => by
    have := run_copy_row (P := Tryz.prog) w 27 27 ty 5 P po m pc ⟨d, o, none⟩ l.length c cs.toArray 5 ((l.take m).map byteV) Tryz.underlying27 (by kernel_rfl) hP (by simp only [List.length_map, List.length_take]; exact Nat.min_comm _ _) (fun j v hj => by
      have hadd : (⟨d, o, none⟩ : Addr).add j = ⟨d, o + j, none⟩ := by unfold Addr.add; split <;> simp_all
      rw [hadd]
      refine hcell j v ?_
      rw [List.map_take, List.getElem?_take] at hj
      split at hj
      · exact hj
      · cases hj) (by simp; omega) (by intro u hu; simp only [List.mem_map] at hu; obtain ⟨y, _, rfl⟩ := hu; rfl)
    have hlen : ((l.take m).map byteV).length = m := by simp; omega
    rw [this, hlen]
    simp [goInt]
  have hw1 : ∀ k, k ≠ P → (w.setRow P (cs.take po ++ (l.take m).map byteV ++ cs.drop (po + m)).toArray).heap[k]? = w.heap[k]? := fun k hk => setRow_other w P k _ hk
  have hP1 : Blk (w.setRow P (cs.take po ++ (l.take m).map byteV ++ cs.drop (po + m)).toArray) P 5 (cs.take po ++ (l.take m).map byteV ++ cs.drop (po + m)).toArray := setRow_heap w P _ _ 5 _ hP
  have hsz1 : (w.setRow P (cs.take po ++ (l.take m).map byteV ++ cs.drop (po + m)).toArray).heap.size = w.heap.size := by simp [World.setRow]
  have hos : (w.setRow P (cs.take po ++ (l.take m).map byteV ++ cs.drop (po + m)).toArray).os = w.os ∧ (w.setRow P (cs.take po ++ (l.take m).map byteV ++ cs.drop (po + m)).toArray).tape = w.tape ∧ (w.setRow P (cs.take po ++ (l.take m).map byteV ++ cs.drop (po + m)).toArray).output = w.output := ⟨rfl, rfl, rfl⟩
  generalize w.setRow P (cs.take po ++ (l.take m).map byteV ++ cs.drop (po + m)).toArray = w1 at *
  have hB1 : Blk w1 B 138 #[.slice (some ⟨d, o, none⟩) l.length c] := (hw1 B hBP).trans hB
  obtain ⟨c1, f1⟩ := hB1.c1
  have hcell1 : ∀ j u, (l.map byteV)[j]? = some u → w1.cell? ⟨d, o + j, none⟩ = some u := fun j u hu => by
    rw [World.cell?_of_block (a := ⟨d, o + j, none⟩) (hw1 d hdP)]
    exact hcell j u hu
  have hl0 : ¬ l.length = 0 := by omega
  have Hc := Lib.hid hcell
  have Hc1 := Lib.hid hcell1
  have Hb1 := Lib.hid hB1
  have Hb := Lib.hid hB
  have Hw1 := Lib.hid hw1
  have HP := Lib.hid hP
  have HP1 := Lib.hid hP1
  have Hs := Lib.hid hsz1
  clear hcell hcell1 hB1 hB hw1 hP hP1 hsz1
  go_enter Tryz.func268, Tryz.ntmps268
  go_wp2_with fail
  all_goals
    go_ret2
    exact ⟨rfl, read_end Hb1.out hdB hdl hBP (by simpa using HP1.out) Hc1.out Hw1.out Hs.out hos (by omega) (by omega)⟩

attribute [local go_sem] me_136_Read na_136_Read
set_option maxRecDepth 100000 in
theorem readFull_any (B d P po m pc : Nat) (l : List UInt8) (cs : List Value) (hm : 0 < m) (hml : m ≤ l.length) (hpo : po + m ≤ cs.length) (hmc : m ≤ pc) (hm9 : m ≤ 1000) (hdP : d ≠ P) (w : World) (h : Src w B d l) (hP : Blk w P 5 cs.toArray) :
    Calls Tryz.prog 107 #[.iface 136 (.pointer (some ⟨B, 0, none⟩)), .slice (some ⟨P, po, none⟩) m pc] w fun e w' => e = .returned (.tuple #[.int .i64 m, .nilIface]) ∧
      Src w' B d (l.drop m) ∧ Blk w' P 5 (cs.take po ++ (l.take m).map byteV ++ cs.drop (po + m)).toArray ∧ Two w w' B P := by
  have h1 := read_any B d P po m pc l cs hm hml hpo hdP w.drew h hP
  have hm0 : (0 : Int) < m := by omega
  have hm1 : ¬ (m : Int) < m := by omega
  clear h hP
  go_enter Tryz.func107, Tryz.ntmps107
  go_wp2_with fail
  refine wp_loop_rounds 2 ?_
  rw [rounds_succ]
  go_wp2_with fail
  go_region_with (refine h1.mono ?_; rintro e w1 ⟨rfl, hs1, hp1, ht1⟩)
  have Hs := Lib.hid hs1
  have Hp := Lib.hid hp1
  have Ht := Lib.hid ht1
  have hmz : wrap64 (m : Int) = m := IntWalk.wrap64_in _ (by omega)
  clear hs1 hp1 ht1 h1
  go_wp2_with fail
  rw [rounds_succ]
  go_wp2_with fail
  go_ret2
  exact ⟨rfl, Hs.out, by simpa using Hp.out, Ht.out⟩

theorem bits_or_i32 (a b : Nat) (ha : a < 2147483648) (hb : b < 2147483648) : bits .or .i32 (a : Int) (b : Int) = ((a ||| b : Nat) : Int) := by
  have hx : a ||| b < 2 ^ 31 := Nat.or_lt_two_pow (by omega) (by omega)
  have h1 : (BitVec.ofInt 32 (a : Int)).toNat = a := by
    rw [BitVec.ofInt_natCast, BitVec.toNat_ofNat]; exact Nat.mod_eq_of_lt (by omega)
  have h2 : (BitVec.ofInt 32 (b : Int)).toNat = b := by
    rw [BitVec.ofInt_natCast, BitVec.toNat_ofNat]; exact Nat.mod_eq_of_lt (by omega)
  show IntKind.i32.wrap ((BitVec.ofInt 32 (a : Int) ||| BitVec.ofInt 32 (b : Int)).toNat : Int) = _
  rw [BitVec.toNat_or, h1, h2, IntKind.wrap_i32]
  omega
theorem bits_or_i16 (a b : Nat) (ha : a < 32768) (hb : b < 32768) : bits .or .i16 (a : Int) (b : Int) = ((a ||| b : Nat) : Int) := by
  have hx : a ||| b < 2 ^ 15 := Nat.or_lt_two_pow (by omega) (by omega)
  have h1 : (BitVec.ofInt 16 (a : Int)).toNat = a := by
    rw [BitVec.ofInt_natCast, BitVec.toNat_ofNat]; exact Nat.mod_eq_of_lt (by omega)
  have h2 : (BitVec.ofInt 16 (b : Int)).toNat = b := by
    rw [BitVec.ofInt_natCast, BitVec.toNat_ofNat]; exact Nat.mod_eq_of_lt (by omega)
  show IntKind.i16.wrap ((BitVec.ofInt 16 (a : Int) ||| BitVec.ofInt 16 (b : Int)).toNat : Int) = _
  rw [BitVec.toNat_or, h1, h2]
  exact IntWalk.i16_in _ (by omega)
theorem or_parts (a b i : Nat) (h : b < 2 ^ i) : (a * 2 ^ i) ||| b = a * 2 ^ i + b := by
  have := Nat.shiftLeft_add_eq_or_of_lt h a
  rw [Nat.shiftLeft_eq] at this
  exact this.symm
theorem be32 (a b c d : Nat) (ha : a < 128) (hb : b < 256) (hc : c < 256) (hd : d < 256) :
    bits .or .i32 (bits .or .i32 (bits .or .i32 ((a : Int) * 16777216) ((b : Int) * 65536)) ((c : Int) * 256)) (d : Int) = (a : Int) * 16777216 + b * 65536 + c * 256 + d := by
  have e1 : ((a : Int) * 16777216) = ((a * 256 * 2 ^ 16 : Nat) : Int) := by omega
  have e2 : ((b : Int) * 65536) = ((b * 65536 : Nat) : Int) := by omega
  have e3 : ((c : Int) * 256) = ((c * 256 : Nat) : Int) := by omega
  have o1 : (a * 256 * 2 ^ 16) ||| (b * 65536) = (a * 256 + b) * 256 * 2 ^ 8 := by
    have := or_parts a (b * 65536) 24 (by omega)
    rw [show a * 256 * 2 ^ 16 = a * 2 ^ 24 by omega, this]; omega
  have o2 : ((a * 256 + b) * 256 * 2 ^ 8) ||| (c * 256) = ((a * 256 + b) * 256 + c) * 2 ^ 8 := by
    have := or_parts (a * 256 + b) (c * 256) 16 (by omega)
    rw [show (a * 256 + b) * 256 * 2 ^ 8 = (a * 256 + b) * 2 ^ 16 by omega, this]; omega
  have o3 := or_parts ((a * 256 + b) * 256 + c) d 8 (by omega)
  have e4 : (a : Int) * 16777216 + b * 65536 + c * 256 + d = ((((a * 256 + b) * 256 + c) * 2 ^ 8 + d : Nat) : Int) := by omega
  rw [e4, e1, e2, e3, bits_or_i32 _ _ (by omega) (by omega), o1, bits_or_i32 _ _ (by omega) (by omega), o2, bits_or_i32 _ _ (by omega) (by omega), o3]
theorem be16 (a b : Nat) (ha : a < 128) (hb : b < 256) : bits .or .i16 ((a : Int) * 256) (b : Int) = (a : Int) * 256 + b := by
  have e1 : ((a : Int) * 256) = ((a * 2 ^ 8 : Nat) : Int) := by omega
  have e2 : (a : Int) * 256 + b = ((a * 2 ^ 8 + b : Nat) : Int) := by omega
  rw [e2, e1, bits_or_i16 _ _ (by omega) (by omega), or_parts a b 8 (by omega)]

set_option maxRecDepth 100000 in
theorem readInt_any (P o n c : Nat) (hn : 4 ≤ n) (x5 x6 x7 x8 : UInt8) (h5 : x5.toNat < 128) (w : World) (h0 : w.cell? ⟨P, o, none⟩ = some (byteV x5)) (h1 : w.cell? ⟨P, o + 1, none⟩ = some (byteV x6)) (h2 : w.cell? ⟨P, o + 2, none⟩ = some (byteV x7)) (h3 : w.cell? ⟨P, o + 3, none⟩ = some (byteV x8)) :
    Calls Tryz.prog 108 #[.slice (some ⟨P, o, none⟩) n c] w fun e w' => e = .returned (.int .i32 ((x5.toNat : Int) * 16777216 + x6.toNat * 65536 + x7.toNat * 256 + x8.toNat)) ∧ ∃ n, w' = w.drewN n := by
  simp only [byteV] at h0 h1 h2 h3
  have h6 := x6.toNat_lt
  have h7 := x7.toNat_lt
  have h8 := x8.toNat_lt
  go_enter Tryz.func108, Tryz.ntmps108
  go_wp2_with fail
  go_quiet (fail)
  rw [be32 _ _ _ _ h5 h6 h7 h8]
  go_wp2_with fail
  go_ret
  exact ⟨rfl, _, rfl⟩

/-- Only the blocks B and P, and new ones, may differ. -/
def Far (w w' : World) (B P : Nat) : Prop :=
  w'.os = w.os ∧ w'.tape = w.tape ∧ w'.output = w.output ∧ w.heap.size ≤ w'.heap.size ∧ ∀ k, k < w.heap.size → k ≠ B → k ≠ P → w'.heap[k]? = w.heap[k]?
theorem Far.two {w w1 w' : World} {B P : Nat} (h : Far w w1 B P) (t : Two w1 w' B P) : Far w w' B P :=
  ⟨t.1.trans h.1, t.2.1.trans h.2.1, t.2.2.1.trans h.2.2.1, Nat.le_trans h.2.2.2.1 (Nat.le_of_eq t.2.2.2.1.symm), fun k hk h1 h2 => (t.2.2.2.2 k h1 h2).trans (h.2.2.2.2 k hk h1 h2)⟩

theorem Far.set {w w1 : World} {B P : Nat} (h : Far w w1 B P) (i : Nat) (u : Value) : Far w (w1.setCell ⟨w.heap.size, i, none⟩ u) B P :=
  ⟨h.1, h.2.1, h.2.2.1, by simpa [World.setCell] using h.2.2.2.1, fun k hk h1 h2 => (Below.heap_setCell w1 ⟨w.heap.size, i, none⟩ u k (by simp; omega)).trans (h.2.2.2.2 k hk h1 h2)⟩
theorem Far.drew {w w1 : World} {B P : Nat} (h : Far w w1 B P) : Far w w1.drew B P := h
theorem Far.drewN {w w1 : World} {B P : Nat} (h : Far w w1 B P) (n : Nat) : Far w (w1.drewN n) B P := h
theorem Src.drew {w : World} {B d : Nat} {l : List UInt8} (h : Src w B d l) : Src w.drew B d l := h
theorem Src.drewN {w : World} {B d : Nat} {l : List UInt8} (h : Src w B d l) (n : Nat) : Src (w.drewN n) B d l := h
theorem Src.off {w : World} {B d h : Nat} {l : List UInt8} (hs : Src w B d l) (h1 : B ≠ h) (h2 : d ≠ h) (i : Nat) (u : Value) : Src (w.setCell ⟨h, i, none⟩ u) B d l := by
  obtain ⟨o, c, hB, hc, hdB, hdl, hcell⟩ := hs
  exact ⟨o, c, hB.off h1 _, hc, hdB, by simpa [World.setCell] using hdl, fun j u' hu => (World.cell?_of_block (a := ⟨d, o + j, none⟩) (Below.heap_setCell w ⟨h, i, none⟩ u d h2)).trans (hcell j u' hu)⟩
theorem c6 {w : World} {g t : Nat} {a b c d e f : Value} (h : Blk w g t #[a, b, c, d, e, f]) : w.cell? ⟨g, 0, none⟩ = some a ∧ w.cell? ⟨g, 1, none⟩ = some b ∧ w.cell? ⟨g, 2, none⟩ = some c ∧ w.cell? ⟨g, 3, none⟩ = some d ∧ w.cell? ⟨g, 4, none⟩ = some e ∧ w.cell? ⟨g, 5, none⟩ = some f ∧ ∀ i, w.frozen? ⟨g, i, none⟩ = false :=
  ⟨h.cell 0, h.cell 1, h.cell 2, h.cell 3, h.cell 4, h.cell 5, fun i => h.frozen i⟩

/-- What lies in a header. -/
def hdrV (x0 x1 : UInt8) (s : Int) (x4 : UInt8) (n : Int) : Value := .agg #[byteV x0, byteV x1, .int .i64 s, byteV x4, .int .i64 n, .slice none 0 0]

set_option maxRecDepth 100000 in
set_option maxHeartbeats 1600000 in
theorem readHeader_any (B d P : Nat) (x0 x1 x2 x3 x4 x5 x6 x7 x8 : UInt8) (rest : List UInt8) (hx0 : x0 = 3 ∨ x0 = 4 ∨ x0 = 131 ∨ x0 = 132) (hx2 : x2.toNat < 128) (hx5 : x5.toNat < 128) (hdP : d ≠ P) (w : World)
    (h : Src w B d (x0 :: x1 :: x2 :: x3 :: x4 :: x5 :: x6 :: x7 :: x8 :: rest)) (hP : Blk w P 5 (List.replicate 9 (Value.int .u8 0)).toArray) :
    Calls Tryz.prog 74 #[.iface 136 (.pointer (some ⟨B, 0, none⟩)), .slice (some ⟨P, 0, none⟩) 9 9] w fun e w' =>
      e = .returned (.tuple #[hdrV x0 x1 ((x2.toNat : Int) * 256 + x3.toNat) x4 ((x5.toNat : Int) * 16777216 + x6.toNat * 65536 + x7.toNat * 256 + x8.toNat), .nilIface]) ∧ Src w' B d rest ∧ Far w w' B P := by
  obtain ⟨hBl, hdl⟩ : B < w.heap.size ∧ d < w.heap.size := by
    obtain ⟨o, c, hB, hc, hdB, hdl, hcell⟩ := h
    exact ⟨hB.lt, hdl⟩
  have hPl := hP.lt
  obtain ⟨vv, hvv, hv3, hv4⟩ : ∃ vv : Int, bits .and .u8 (x0.toNat : Int) 127 = vv ∧ 3 ≤ vv ∧ vv ≤ 4 := by
    rcases hx0 with rfl | rfl | rfl | rfl
    · exact ⟨3, by decide, by decide, by decide⟩
    · exact ⟨4, by decide, by decide, by decide⟩
    · exact ⟨3, by decide, by decide, by decide⟩
    · exact ⟨4, by decide, by decide, by decide⟩
  have e0 : Ext w (w.alloc (Obj.cells #[Value.int IntKind.u8 0, Value.int IntKind.u8 0, Value.int IntKind.i64 0, Value.int IntKind.u8 0, Value.int IntKind.i64 0, Value.slice none 0 0] 142)) := (Ext.refl w).alloc _
  have h1 := readFull_any B d P 0 1 9 _ _ (by omega) (by simp) (by simp) (by omega) (by omega) hdP _ (h.ext e0) (hP.ext e0)
  have hH := Blk.new w 142 #[Value.int IntKind.u8 0, Value.int IntKind.u8 0, Value.int IntKind.i64 0, Value.int IntKind.u8 0, Value.int IntKind.i64 0, Value.slice none 0 0]
  have Hx := Lib.hid hx0
  have Hv := Lib.hid hvv
  have HH := Lib.hid hH
  clear h hP hH hx0 hvv
  go_enter Tryz.func74, Tryz.ntmps74
  go_wp2_with fail
  refine h1.mono ?_
  rintro e w1 ⟨rfl, hs1, hp1, ht1⟩
  simp only [List.drop_succ_cons, List.drop_zero, List.take_succ_cons, List.take_zero, List.map_cons, List.map_nil, List.nil_append, List.replicate, Nat.zero_add, List.cons_append] at hs1 hp1
  have hvv := Hv.out
  have c0 : w1.cell? ⟨P, 0, none⟩ = some (.int .u8 (x0.toNat : Int)) := hp1.cell 0
  have hH1 : Blk w1 w.heap.size 142 #[Value.int IntKind.u8 0, Value.int IntKind.u8 0, Value.int IntKind.i64 0, Value.int IntKind.u8 0, Value.int IntKind.i64 0, Value.slice none 0 0] := (ht1.2.2.2.2 _ (by omega) (by omega)).trans HH.out
  have h2 := readFull_any B d P 1 8 8 _ _ (by omega) (by simp) (by simp) (by omega) (by omega) hdP _ hs1 hp1
  have hf1 : Far w w1 B P := Far.two (w1 := w.alloc _) ⟨rfl, rfl, rfl, e0.size, fun k hk _ _ => e0.block k hk⟩ ht1
  have Hs1 := Lib.hid hs1
  have Hf1 := Lib.hid hf1
  have HH1 := Lib.hid hH1
  clear hs1 hp1 ht1 h1 hf1 hH1
  go_wp2_with fail
  refine h2.mono ?_
  rintro e w2 ⟨rfl, hs2, hp2, ht2⟩
  simp only [List.drop_succ_cons, List.drop_zero, List.take_succ_cons, List.take_zero, List.map_cons, List.map_nil, List.nil_append, List.replicate, Nat.zero_add, List.cons_append, Nat.reduceAdd] at hs2 hp2
  have hH2 : Blk w2 w.heap.size 142 #[Value.int IntKind.u8 0, Value.int IntKind.u8 0, Value.int IntKind.i64 0, Value.int IntKind.u8 0, Value.int IntKind.i64 0, Value.slice none 0 0] := (ht2.2.2.2.2 _ (by omega) (by omega)).trans HH1.out
  have hf2 : Far w w2 B P := Far.two Hf1.out ht2
  clear h2 ht2 c0
  have k0 : w2.cell? ⟨P, 0, none⟩ = some (.int .u8 (x0.toNat : Int)) := hp2.cell 0
  have k1 : w2.cell? ⟨P, 1, none⟩ = some (.int .u8 (x1.toNat : Int)) := hp2.cell 1
  have k2 : w2.cell? ⟨P, 2, none⟩ = some (.int .u8 (x2.toNat : Int)) := hp2.cell 2
  have k3 : w2.cell? ⟨P, 3, none⟩ = some (.int .u8 (x3.toNat : Int)) := hp2.cell 3
  have k4 : w2.cell? ⟨P, 4, none⟩ = some (.int .u8 (x4.toNat : Int)) := hp2.cell 4
  obtain ⟨g0, g1, g2, g3, g4, g5, gf⟩ := c6 hH2
  have hP2 := hp2.lt
  have hH3 := hH2.lt
  have hPH : P ≠ w.heap.size := by omega
  have hx3 := x3.toNat_lt
  have Hp2 := Lib.hid hp2
  have HH2 := Lib.hid hH2
  have Hf2 := Lib.hid hf2
  have Hs2 := Lib.hid hs2
  clear hp2 hH2 hf2 hs2
  go_upto_region 19 with fail
  go_region
  rw [be16 _ _ hx2 hx3, IntWalk.wrap64_in ((x2.toNat : Int) * 256 + x3.toNat) (by omega)]
  go_upto_region 21 with fail
  generalize hW : World.drew (World.setCell _ ⟨w.heap.size, 3, none⟩ _) = W
  have hpW : Blk W P 5 #[byteV x0, byteV x1, byteV x2, byteV x3, byteV x4, byteV x5, byteV x6, byteV x7, byteV x8] := by
    rw [← hW]
    exact Blk.off (Blk.drew (Blk.off (Blk.off (Blk.off Hp2.out hPH _) hPH _) hPH _)) hPH _
  have hHW : Blk W w.heap.size 142 #[byteV x0, byteV x1, .int .i64 ((x2.toNat : Int) * 256 + x3.toNat), byteV x4, .int .i64 0, .slice none 0 0] := by
    rw [← hW]
    have := Blk.set_ (Blk.drew (Blk.set_ (Blk.set_ (Blk.set_ HH2.out 0 (byteV x0)) 1 (byteV x1)) 2 (.int .i64 ((x2.toNat : Int) * 256 + x3.toNat)))) 3 (byteV x4)
    exact this
  have hfW : Far w W B P ∧ Src W B d rest := by
    rw [← hW]
    exact ⟨((((Hf2.out.set _ _).set _ _).set _ _).drew.set _ _), (((((Hs2.out.off (by omega) (by omega) _ _).off (by omega) (by omega) _ _).off (by omega) (by omega) _ _).drew.off (by omega) (by omega) _ _))⟩
  have h3 := readInt_any P 5 4 4 (by omega) x5 x6 x7 x8 hx5 W (hpW.cell 5) (hpW.cell 6) (hpW.cell 7) (hpW.cell 8)
  obtain ⟨q0, q1, q2, q3, q4, q5, qf⟩ := c6 hHW
  simp only [byteV] at q0 q1 q3
  have hx6 := x6.toNat_lt
  have hx7 := x7.toNat_lt
  have hx8 := x8.toNat_lt
  have HpW := Lib.hid hpW
  have HHW := Lib.hid hHW
  have HfW := Lib.hid hfW
  clear hpW hHW hfW hW k0 k1 k2 k3 k4 g0 g1 g2 g3 g4 g5 gf
  go_wp2_with fail
  refine h3.mono ?_
  rintro e w3 ⟨rfl, nn, rfl⟩
  clear h3
  go_wp2_with fail
  generalize hWf : World.setCell _ ⟨w.heap.size, 5, none⟩ _ = Wf
  have hHf : Blk Wf w.heap.size 142 #[byteV x0, byteV x1, .int .i64 ((x2.toNat : Int) * 256 + x3.toNat), byteV x4, .int .i64 ((x5.toNat : Int) * 16777216 + x6.toNat * 65536 + x7.toNat * 256 + x8.toNat), .slice none 0 0] := by
    rw [← hWf]
    exact Blk.set_ (Blk.set_ (Blk.set_ (Blk.set_ (Blk.set_ (Blk.set_ (Blk.set_ (HHW.out.drewN nn) 4 _) 0 _) 1 _) 2 _) 3 _) 4 _) 5 _
  have hJ : Far w Wf B P ∧ Src Wf B d rest := by
    rw [← hWf]
    exact ⟨((((((((HfW.out.1).drewN nn).set _ _).set _ _).set _ _).set _ _).set _ _).set _ _).set _ _,
      ((((((((HfW.out.2).drewN nn).off (by omega) (by omega) _ _).off (by omega) (by omega) _ _).off (by omega) (by omega) _ _).off (by omega) (by omega) _ _).off (by omega) (by omega) _ _).off (by omega) (by omega) _ _).off (by omega) (by omega) _ _⟩
  clear hWf
  obtain ⟨r0, r1, r2, r3, r4, r5, _⟩ := c6 hHf
  exact bodyPost_ret (by simp [results, Tryz.results74, go_sem, r0, r1, r2, r3, r4, r5]; rfl) rfl ⟨rfl, hJ.2, hJ.1⟩
end Go.Proofs.YtammjbmfiakbnaaGreatDoor
