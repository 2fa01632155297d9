/-
  Words on memory for the proofs of this seat: 'Ext w w'' (whatever lay in w lies unchanged in w'), 'Blk' (a block that is known whole), 'Seg' (cells in a row), 'Bytes' (a slice of bytes that reads as a list). Nothing of the program stands here. No conditions.
-/
import Derived.WalkKit
import Derived.WalkLawsBesides
import Derived.WalkSpells
import Derived.Laws.BytesArg
import Derived.Lib.ConvBytes
import Derived.Deep.Draws
namespace Go.Proofs.YtammjbmfiakbnaaGreatDoor
open Go.RowKit

/-- Whatever lay in w lies unchanged in w'. -/
def Ext (w w' : World) : Prop := Below w.heap.size w w'

section
variable {w w1 w2 : World}
theorem Ext.refl (w : World) : Ext w w := Below.refl _ _
theorem Ext.size (h : Ext w w1) : w.heap.size ≤ w1.heap.size := Below.size h
theorem Ext.trans (h : Ext w w1) (k : Ext w1 w2) : Ext w w2 := Below.trans h (Below.mono k (Below.size h))
theorem Ext.alloc (h : Ext w w1) (o : Obj) : Ext w (w1.alloc o) := Below.alloc h (Below.size h) o
theorem Ext.drew (h : Ext w w1) : Ext w w1.drew := Below.drew h
theorem Ext.drewN (h : Ext w w1) (n : Nat) : Ext w (w1.drewN n) := ⟨h.os, h.tape, h.output, h.size, h.block⟩
theorem Ext.setCell (h : Ext w w1) {p : Addr} (hp : w.heap.size ≤ p.block) (u : Value) : Ext w (w1.setCell p u) := Below.setCell h hp u
theorem Ext.below (h : Ext w w1) {B : Nat} (hB : B ≤ w.heap.size) : Below B w w1 := Below.mono h hB
theorem Ext.cell (h : Ext w w1) {b o : Nat} (hb : b < w.heap.size) : w1.cell? ⟨b, o, none⟩ = w.cell? ⟨b, o, none⟩ := Below.cell (p := ⟨b, o, none⟩) h hb
theorem Ext.frozen (h : Ext w w1) {b o : Nat} (hb : b < w.heap.size) : w1.frozen? ⟨b, o, none⟩ = w.frozen? ⟨b, o, none⟩ := Below.frozen (p := ⟨b, o, none⟩) h hb
theorem Ext.cellS (h : Ext w w1) {b o : Nat} {v : Value} (hc : w.cell? ⟨b, o, none⟩ = some v) : w1.cell? ⟨b, o, none⟩ = some v :=
  (h.cell (World.block_lt_of_cell? (a := ⟨b, o, none⟩) w hc)).trans hc
theorem Ext.grown {row : Option Nat} (h : Ext w w1) (hg : w1.grownBy w2 row) (hr : ∀ k, row = some k → w.heap.size ≤ k) : Ext w w2 := Below.grown h hg h.size hr
end

/-- Block g holds just these cells, none frozen. -/
def Blk (w : World) (g : Nat) (t : TypeId) (cs : Array Value) : Prop := w.heap[g]? = some (.cells cs t (0, 0))

section
variable {w w1 w2 : World} {g : Nat} {t : TypeId} {cs : Array Value}
theorem Blk.lt (h : Blk w g t cs) : g < w.heap.size := by
  unfold Blk at h
  rcases Nat.lt_or_ge g w.heap.size with hlt | hge
  · exact hlt
  · rw [Array.getElem?_eq_none hge] at h; cases h
theorem Blk.cell (h : Blk w g t cs) (i : Nat) : w.cell? ⟨g, i, none⟩ = cs[i]? := by
  unfold Blk at h
  simp [World.cell?, h]
theorem Blk.frozen (h : Blk w g t cs) (i : Nat) : w.frozen? ⟨g, i, none⟩ = false := by
  unfold Blk at h
  simp [World.frozen?, h]
theorem Blk.ext (h : Blk w g t cs) (he : Ext w w1) : Blk w1 g t cs := (he.block g h.lt).trans h
theorem Blk.new (w : World) (t : TypeId) (cs : Array Value) : Blk (w.alloc (.cells cs t)) w.heap.size t cs := by
  show (w.heap.push _)[w.heap.size]? = _
  simp
theorem Blk.new' (w : World) (n : Nat) (t : TypeId) (cs : Array Value) (hn : n = w.heap.size) : Blk (w.alloc (.cells cs t)) n t cs := hn ▸ Blk.new w t cs
theorem Blk.alloc (h : Blk w g t cs) (o : Obj) : Blk (w.alloc o) g t cs := h.ext ((Ext.refl w).alloc o)
theorem Blk.drew (h : Blk w g t cs) : Blk w.drew g t cs := h
theorem Blk.drewN (h : Blk w g t cs) (n : Nat) : Blk (w.drewN n) g t cs := h
theorem Blk.set_ (h : Blk w g t cs) (i : Nat) (u : Value) : Blk (w.setCell ⟨g, i, none⟩ u) g t (cs.setIfInBounds i u) := by
  unfold Blk at h ⊢
  simp [World.setCell, Array.getElem?_modify, h]
theorem Blk.far (h : Blk w g t cs) {p : Addr} (hp : g ≠ p.block) (u : Value) : Blk (w.setCell p u) g t cs := (Below.heap_setCell w p u g hp).trans h
theorem Blk.off (h : Blk w g t cs) {b o : Nat} (hp : g ≠ b) (u : Value) : Blk (w.setCell ⟨b, o, none⟩ u) g t cs := h.far (p := ⟨b, o, none⟩) hp u
theorem Blk.ne (h : Blk w g t cs) {g' : Nat} {t' : TypeId} {cs' : Array Value} (h' : Blk w g' t' cs') (hne : t ≠ t') : g ≠ g' := by
  rintro rfl
  unfold Blk at h h'
  rw [h] at h'
  injection h' with h'
  injection h' with _ ht
  exact hne ht
theorem Blk.c1 {a : Value} (h : Blk w g t #[a]) : w.cell? ⟨g, 0, none⟩ = some a ∧ w.frozen? ⟨g, 0, none⟩ = false := ⟨h.cell 0, h.frozen 0⟩
theorem Blk.c2 {a b : Value} (h : Blk w g t #[a, b]) : w.cell? ⟨g, 0, none⟩ = some a ∧ w.cell? ⟨g, 1, none⟩ = some b := ⟨h.cell 0, h.cell 1⟩
theorem Blk.c3 {a b c : Value} (h : Blk w g t #[a, b, c]) : w.cell? ⟨g, 0, none⟩ = some a ∧ w.cell? ⟨g, 1, none⟩ = some b ∧ w.cell? ⟨g, 2, none⟩ = some c := ⟨h.cell 0, h.cell 1, h.cell 2⟩
theorem Blk.c11 {a0 a1 a2 a3 a4 a5 a6 a7 a8 a9 a10 : Value} (h : Blk w g t #[a0, a1, a2, a3, a4, a5, a6, a7, a8, a9, a10]) :
    w.cell? ⟨g, 0, none⟩ = some a0 ∧ w.cell? ⟨g, 1, none⟩ = some a1 ∧ w.cell? ⟨g, 2, none⟩ = some a2 ∧ w.cell? ⟨g, 3, none⟩ = some a3 ∧ w.cell? ⟨g, 4, none⟩ = some a4 ∧ w.cell? ⟨g, 5, none⟩ = some a5 ∧
    w.cell? ⟨g, 6, none⟩ = some a6 ∧ w.cell? ⟨g, 7, none⟩ = some a7 ∧ w.cell? ⟨g, 8, none⟩ = some a8 ∧ w.cell? ⟨g, 9, none⟩ = some a9 ∧ w.cell? ⟨g, 10, none⟩ = some a10 :=
  ⟨h.cell 0, h.cell 1, h.cell 2, h.cell 3, h.cell 4, h.cell 5, h.cell 6, h.cell 7, h.cell 8, h.cell 9, h.cell 10⟩
end

/-- These cells lie in a row from the address on (if there are any). -/
def Seg (w : World) (A : Option Addr) (xs : List Value) : Prop :=
  xs ≠ [] → ∃ b o, A = some ⟨b, o, none⟩ ∧ b < w.heap.size ∧ ∀ j u, xs[j]? = some u → w.cell? ⟨b, o + j, none⟩ = some u

section
variable {w w1 : World} {A : Option Addr} {xs : List Value}
theorem Seg.nil (w : World) (A : Option Addr) : Seg w A [] := fun h => absurd rfl h
theorem Seg.ext (h : Seg w A xs) (he : Ext w w1) : Seg w1 A xs := fun hn => by
  obtain ⟨b, o, rfl, hb, hc⟩ := h hn
  exact ⟨b, o, rfl, Nat.lt_of_lt_of_le hb he.size, fun j u hu => he.cellS (hc j u hu)⟩
theorem Seg.drew (h : Seg w A xs) : Seg w.drew A xs := h
theorem Seg.drewN (h : Seg w A xs) (n : Nat) : Seg (w.drewN n) A xs := h
theorem Seg.alloc (h : Seg w A xs) (o : Obj) : Seg (w.alloc o) A xs := h.ext ((Ext.refl w).alloc o)
theorem Seg.at_ (h : Seg w A xs) {j : Nat} (hj : j < xs.length) : ∃ b o, A = some ⟨b, o, none⟩ ∧ b < w.heap.size ∧ w.cell? ⟨b, o + j, none⟩ = some xs[j] := by
  obtain ⟨b, o, rfl, hb, hc⟩ := h (by rintro rfl; simp at hj)
  exact ⟨b, o, rfl, hb, hc j _ (List.getElem?_eq_getElem hj)⟩
theorem Seg.of_blk {g : Nat} {t : TypeId} {cs : Array Value} {n : Nat} (h : Blk w g t cs) (hn : xs = cs.toList.take n) : Seg w (some ⟨g, 0, none⟩) xs := fun _ => by
  refine ⟨g, 0, rfl, h.lt, fun j u hu => ?_⟩
  rw [Nat.zero_add, h.cell]
  subst hn
  rw [List.getElem?_take] at hu
  split at hu
  · simpa using hu
  · cases hu
theorem Seg.drop {b o : Nat} (h : Seg w (some ⟨b, o, none⟩) xs) (k : Nat) : Seg w (some ⟨b, o + k, none⟩) (xs.drop k) := fun hn => by
  obtain ⟨b', o', e, hb, hc⟩ := h (by rintro rfl; simp at hn)
  injection e with e
  injection e with e1 e2
  subst e1; subst e2
  refine ⟨b, o + k, rfl, hb, fun j u hu => ?_⟩
  rw [List.getElem?_drop] at hu
  rw [Nat.add_assoc]
  exact hc _ _ hu
theorem Seg.take (h : Seg w A xs) (k : Nat) : Seg w A (xs.take k) := fun hn => by
  obtain ⟨b, o, e, hb, hc⟩ := h (by rintro rfl; simp at hn)
  refine ⟨b, o, e, hb, fun j u hu => ?_⟩
  rw [List.getElem?_take] at hu
  split at hu
  · exact hc _ _ hu
  · cases hu
end

/-- A byte as a cell. -/
def byteV (u : UInt8) : Value := .int .u8 (u.toNat : Int)

/-- A slice of bytes that reads as l. -/
def Bytes (w : World) (v : Value) (l : List UInt8) : Prop :=
  ∃ A c, v = .slice A l.length c ∧ l.length ≤ c ∧ Seg w A (l.map byteV)

section
variable {w w1 : World} {v : Value} {l : List UInt8}
theorem Bytes.ext (h : Bytes w v l) (he : Ext w w1) : Bytes w1 v l := by
  obtain ⟨A, c, rfl, hc, hs⟩ := h
  exact ⟨A, c, rfl, hc, hs.ext he⟩
theorem Bytes.drew (h : Bytes w v l) : Bytes w.drew v l := h
theorem Bytes.drewN (h : Bytes w v l) (n : Nat) : Bytes (w.drewN n) v l := h
theorem Bytes.nil (w : World) : Bytes w (.slice none 0 0) [] := ⟨none, 0, rfl, Nat.le_refl _, Seg.nil _ _⟩
theorem map_byteV_ne (l : List UInt8) : l.map byteV ≠ [] ↔ l ≠ [] := by simp

/-- 'string(b)'. -/
theorem Bytes.toStr {P : Program} {A : Option Addr} {n c : Nat} (h : Bytes w (.slice A n c) l) (src e dst : TypeId) (hs : P.underlying src = some (.slice e)) (he : P.underlying e = some (.int .u8)) (hd : P.underlying dst = some .string) :
    (convert src dst (.slice A n c)).run P w = .ok (.string ⟨l.toArray⟩) w := by
  obtain ⟨A', c', e', hc, hseg⟩ := h
  injection e' with e1 e2 e3
  subst e1; subst e2; subst e3
  by_cases hl : l = []
  · subst hl
    rw [run_convert_bytes_string w src dst e _ _ _ hs he hd]
    cases A with
    | none => simp [Conv.bytesToString]; rfl
    | some a =>
      have hload : (loadCells a 0).run P w = .ok (([] : List Int).map (Value.int .u8)).toArray w := by
        have := run_loadCells_list (P := P) w a [] (fun j v hj => by simp at hj)
        simpa using this
      exact run_bytesToString (P := P) w a 0 c [] hload
  · obtain ⟨b, o, rfl, hb, hcell⟩ := hseg ((map_byteV_ne l).2 hl)
    have h1 := run_convert_bytes_arg (P := P) w src e hs he b o l.length c (l.map fun u => (u.toNat : Int)) (by simp) (fun i hi => by
      have := hcell i (byteV l[i]) (by simp [List.getElem?_eq_getElem hi])
      rw [this]
      simp [byteV, List.getD, List.getElem?_eq_getElem hi]) dst hd
    rw [h1]
    congr 3
    simp only [strOfNums, List.map_map]
    congr 1
    rw [List.map_congr_left (g := id) (fun u _ => by simp), List.map_id]
end
#print axioms Bytes.toStr
end Go.Proofs.YtammjbmfiakbnaaGreatDoor
