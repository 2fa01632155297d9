/- A part of the proof that the card of laws.FnMarshal holds. No conditions. -/
import Derived.WalkKit
import Derived.WalkLawsBesides
import Derived.WalkSpells
import Derived.Laws.BytesArg
import Derived.Lib.ConvBytes
import Derived.Deep.Draws
import Derived.Test.YtammjbmfiakbnaaGreatDoorProg
import Derived.ProofKit
import Derived.OpenShut
import Derived.OrdersHeld
import Derived.RegionTactic
import Derived.Deep.RegionHeld
set_option linter.unusedSimpArgs false
set_option linter.unusedVariables false
namespace Go.Proofs.YtammjbmfiakbnaaGreatDoor
open Go.RowKit
/-- Whatever lay in w lies unchanged in w'. -/
def Ext (w w' : World) : Prop := Below w.heap.size w w'
section
variable {w w1 w2 : World}
theorem Ext.refl (w : World) : Ext w w := Below.refl _ _
theorem Ext.size (h : Ext w w1) : w.heap.size ≤ w1.heap.size := Below.size h
theorem Ext.trans (h : Ext w w1) (k : Ext w1 w2) : Ext w w2 := Below.trans h (Below.mono k (Below.size h))
theorem Ext.alloc (h : Ext w w1) (o : Obj) : Ext w (w1.alloc o) := Below.alloc h (Below.size h) o
theorem Ext.drew (h : Ext w w1) : Ext w w1.drew := Below.drew h
theorem Ext.drewN (h : Ext w w1) (n : Nat) : Ext w (w1.drewN n) := ⟨h.os, h.tape, h.output, h.size, h.block⟩
theorem Ext.setCell (h : Ext w w1) {p : Addr} (hp : w.heap.size ≤ p.block) (u : Value) : Ext w (w1.setCell p u) := Below.setCell h hp u
theorem Ext.below (h : Ext w w1) {B : Nat} (hB : B ≤ w.heap.size) : Below B w w1 := Below.mono h hB
theorem Ext.cell (h : Ext w w1) {b o : Nat} (hb : b < w.heap.size) : w1.cell? ⟨b, o, none⟩ = w.cell? ⟨b, o, none⟩ := Below.cell (p := ⟨b, o, none⟩) h hb
theorem Ext.frozen (h : Ext w w1) {b o : Nat} (hb : b < w.heap.size) : w1.frozen? ⟨b, o, none⟩ = w.frozen? ⟨b, o, none⟩ := Below.frozen (p := ⟨b, o, none⟩) h hb
theorem Ext.cellS (h : Ext w w1) {b o : Nat} {v : Value} (hc : w.cell? ⟨b, o, none⟩ = some v) : w1.cell? ⟨b, o, none⟩ = some v :=
 (h.cell (World.block_lt_of_cell? (a := ⟨b, o, none⟩) w hc)).trans hc
theorem Ext.grown {row : Option Nat} (h : Ext w w1) (hg : w1.grownBy w2 row) (hr : ∀ k, row = some k → w.heap.size ≤ k) : Ext w w2 := Below.grown h hg h.size hr
end
/-- Block g holds just these cells, none frozen. -/
def Blk (w : World) (g : Nat) (t : TypeId) (cs : Array Value) : Prop := w.heap[g]? = some (.cells cs t (0, 0))
section
variable {w w1 w2 : World} {g : Nat} {t : TypeId} {cs : Array Value}
theorem Blk.lt (h : Blk w g t cs) : g < w.heap.size := by
 unfold Blk at h
 rcases Nat.lt_or_ge g w.heap.size with hlt | hge
 ·exact hlt
 ·rw [Array.getElem?_eq_none hge] at h; cases h
theorem Blk.cell (h : Blk w g t cs) (i : Nat) : w.cell? ⟨g, i, none⟩ = cs[i]? := by
 unfold Blk at h
 simp [World.cell?, h]
theorem Blk.frozen (h : Blk w g t cs) (i : Nat) : w.frozen? ⟨g, i, none⟩ = false := by
 unfold Blk at h
 simp [World.frozen?, h]
theorem Blk.ext (h : Blk w g t cs) (he : Ext w w1) : Blk w1 g t cs := (he.block g h.lt).trans h
theorem Blk.new (w : World) (t : TypeId) (cs : Array Value) : Blk (w.alloc (.cells cs t)) w.heap.size t cs := by
 show (w.heap.push _)[w.heap.size]? = _
 simp
theorem Blk.new' (w : World) (n : Nat) (t : TypeId) (cs : Array Value) (hn : n = w.heap.size) : Blk (w.alloc (.cells cs t)) n t cs := hn ▸ Blk.new w t cs
theorem Blk.alloc (h : Blk w g t cs) (o : Obj) : Blk (w.alloc o) g t cs := h.ext ((Ext.refl w).alloc o)
theorem Blk.drew (h : Blk w g t cs) : Blk w.drew g t cs := h
theorem Blk.drewN (h : Blk w g t cs) (n : Nat) : Blk (w.drewN n) g t cs := h
theorem Blk.set_ (h : Blk w g t cs) (i : Nat) (u : Value) : Blk (w.setCell ⟨g, i, none⟩ u) g t (cs.setIfInBounds i u) := by
 unfold Blk at h ⊢
 simp [World.setCell, Array.getElem?_modify, h]
theorem Blk.far (h : Blk w g t cs) {p : Addr} (hp : g ≠ p.block) (u : Value) : Blk (w.setCell p u) g t cs := (Below.heap_setCell w p u g hp).trans h
theorem Blk.off (h : Blk w g t cs) {b o : Nat} (hp : g ≠ b) (u : Value) : Blk (w.setCell ⟨b, o, none⟩ u) g t cs := h.far (p := ⟨b, o, none⟩) hp u
theorem Blk.ne (h : Blk w g t cs) {g' : Nat} {t' : TypeId} {cs' : Array Value} (h' : Blk w g' t' cs') (hne : t ≠ t') : g ≠ g' := by
 rintro rfl
 unfold Blk at h h'
 rw [h] at h'
 injection h' with h'
 injection h' with _ ht
 exact hne ht
theorem Blk.c1 {a : Value} (h : Blk w g t #[a]) : w.cell? ⟨g, 0, none⟩ = some a ∧ w.frozen? ⟨g, 0, none⟩ = false := ⟨h.cell 0, h.frozen 0⟩
theorem Blk.c2 {a b : Value} (h : Blk w g t #[a, b]) : w.cell? ⟨g, 0, none⟩ = some a ∧ w.cell? ⟨g, 1, none⟩ = some b := ⟨h.cell 0, h.cell 1⟩
theorem Blk.c3 {a b c : Value} (h : Blk w g t #[a, b, c]) : w.cell? ⟨g, 0, none⟩ = some a ∧ w.cell? ⟨g, 1, none⟩ = some b ∧ w.cell? ⟨g, 2, none⟩ = some c := ⟨h.cell 0, h.cell 1, h.cell 2⟩
theorem Blk.c11 {a0 a1 a2 a3 a4 a5 a6 a7 a8 a9 a10 : Value} (h : Blk w g t #[a0, a1, a2, a3, a4, a5, a6, a7, a8, a9, a10]) :
  w.cell? ⟨g, 0, none⟩ = some a0 ∧ w.cell? ⟨g, 1, none⟩ = some a1 ∧ w.cell? ⟨g, 2, none⟩ = some a2 ∧ w.cell? ⟨g, 3, none⟩ = some a3 ∧ w.cell? ⟨g, 4, none⟩ = some a4 ∧ w.cell? ⟨g, 5, none⟩ = some a5 ∧
  w.cell? ⟨g, 6, none⟩ = some a6 ∧ w.cell? ⟨g, 7, none⟩ = some a7 ∧ w.cell? ⟨g, 8, none⟩ = some a8 ∧ w.cell? ⟨g, 9, none⟩ = some a9 ∧ w.cell? ⟨g, 10, none⟩ = some a10 :=
 ⟨h.cell 0, h.cell 1, h.cell 2, h.cell 3, h.cell 4, h.cell 5, h.cell 6, h.cell 7, h.cell 8, h.cell 9, h.cell 10⟩
end
/-- These cells lie in a row from the address on (if there are any). -/
def Seg (w : World) (A : Option Addr) (xs : List Value) : Prop :=
 xs ≠ [] → ∃ b o, A = some ⟨b, o, none⟩ ∧ b < w.heap.size ∧ ∀ j u, xs[j]? = some u → w.cell? ⟨b, o + j, none⟩ = some u
section
variable {w w1 : World} {A : Option Addr} {xs : List Value}
theorem Seg.nil (w : World) (A : Option Addr) : Seg w A [] := fun h => absurd rfl h
theorem Seg.ext (h : Seg w A xs) (he : Ext w w1) : Seg w1 A xs := fun hn => by
 obtain ⟨b, o, rfl, hb, hc⟩ := h hn
 exact ⟨b, o, rfl, Nat.lt_of_lt_of_le hb he.size, fun j u hu => he.cellS (hc j u hu)⟩
theorem Seg.drew (h : Seg w A xs) : Seg w.drew A xs := h
theorem Seg.drewN (h : Seg w A xs) (n : Nat) : Seg (w.drewN n) A xs := h
theorem Seg.alloc (h : Seg w A xs) (o : Obj) : Seg (w.alloc o) A xs := h.ext ((Ext.refl w).alloc o)
theorem Seg.at_ (h : Seg w A xs) {j : Nat} (hj : j < xs.length) : ∃ b o, A = some ⟨b, o, none⟩ ∧ b < w.heap.size ∧ w.cell? ⟨b, o + j, none⟩ = some xs[j] := by
 obtain ⟨b, o, rfl, hb, hc⟩ := h (by rintro rfl; simp at hj)
 exact ⟨b, o, rfl, hb, hc j _ (List.getElem?_eq_getElem hj)⟩
theorem Seg.of_blk {g : Nat} {t : TypeId} {cs : Array Value} {n : Nat} (h : Blk w g t cs) (hn : xs = cs.toList.take n) : Seg w (some ⟨g, 0, none⟩) xs := fun _ => by
 refine ⟨g, 0, rfl, h.lt, fun j u hu => ?_⟩
 rw [Nat.zero_add, h.cell]
 subst hn
 rw [List.getElem?_take] at hu
 split at hu
 ·simpa using hu
 ·cases hu
theorem Seg.drop {b o : Nat} (h : Seg w (some ⟨b, o, none⟩) xs) (k : Nat) : Seg w (some ⟨b, o + k, none⟩) (xs.drop k) := fun hn => by
 obtain ⟨b', o', e, hb, hc⟩ := h (by rintro rfl; simp at hn)
 injection e with e
 injection e with e1 e2
 subst e1; subst e2
 refine ⟨b, o + k, rfl, hb, fun j u hu => ?_⟩
 rw [List.getElem?_drop] at hu
 rw [Nat.add_assoc]
 exact hc _ _ hu
theorem Seg.take (h : Seg w A xs) (k : Nat) : Seg w A (xs.take k) := fun hn => by
 obtain ⟨b, o, e, hb, hc⟩ := h (by rintro rfl; simp at hn)
 refine ⟨b, o, e, hb, fun j u hu => ?_⟩
 rw [List.getElem?_take] at hu
 split at hu
 ·exact hc _ _ hu
 ·cases hu
end
/-- A byte as a cell. -/
def byteV (u : UInt8) : Value := .int .u8 (u.toNat : Int)
/-- A slice of bytes that reads as l. -/
def Bytes (w : World) (v : Value) (l : List UInt8) : Prop :=
 ∃ A c, v = .slice A l.length c ∧ l.length ≤ c ∧ Seg w A (l.map byteV)
section
variable {w w1 : World} {v : Value} {l : List UInt8}
theorem Bytes.ext (h : Bytes w v l) (he : Ext w w1) : Bytes w1 v l := by
 obtain ⟨A, c, rfl, hc, hs⟩ := h
 exact ⟨A, c, rfl, hc, hs.ext he⟩
theorem Bytes.drew (h : Bytes w v l) : Bytes w.drew v l := h
theorem Bytes.drewN (h : Bytes w v l) (n : Nat) : Bytes (w.drewN n) v l := h
theorem Bytes.nil (w : World) : Bytes w (.slice none 0 0) [] := ⟨none, 0, rfl, Nat.le_refl _, Seg.nil _ _⟩
theorem map_byteV_ne (l : List UInt8) : l.map byteV ≠ [] ↔ l ≠ [] := by simp
/-- 'string(b)'. -/
theorem Bytes.toStr {P : Program} {A : Option Addr} {n c : Nat} (h : Bytes w (.slice A n c) l) (src e dst : TypeId) (hs : P.underlying src = some (.slice e)) (he : P.underlying e = some (.int .u8)) (hd : P.underlying dst = some .string) :
  (convert src dst (.slice A n c)).run P w = .ok (.string ⟨l.toArray⟩) w := by
 obtain ⟨A', c', e', hc, hseg⟩ := h
 injection e' with e1 e2 e3
 subst e1; subst e2; subst e3
 by_cases hl : l = []
 ·subst hl
  rw [run_convert_bytes_string w src dst e _ _ _ hs he hd]
  cases A with
  |none => simp [Conv.bytesToString]; rfl
  |some a =>
   have hload : (loadCells a 0).run P w = .ok (([] : List Int).map (Value.int .u8)).toArray w := by
    have := run_loadCells_list (P := P) w a [] (fun j v hj => by simp at hj)
    simpa using this
   exact run_bytesToString (P := P) w a 0 c [] hload
 ·obtain ⟨b, o, rfl, hb, hcell⟩ := hseg ((map_byteV_ne l).2 hl)
  have h1 := run_convert_bytes_arg (P := P) w src e hs he b o l.length c (l.map fun u => (u.toNat : Int)) (by simp) (fun i hi => by
   have := hcell i (byteV l[i]) (by simp [List.getElem?_eq_getElem hi])
   rw [this]
   simp [byteV, List.getD, List.getElem?_eq_getElem hi]) dst hd
  rw [h1]
  congr 3
  simp only [strOfNums, List.map_map]
  congr 1
  rw [List.map_congr_left (g := id) (fun u _ => by simp), List.map_id]
end
#print axioms Bytes.toStr
end Go.Proofs.YtammjbmfiakbnaaGreatDoor
namespace Go.Proofs.YtammjbmfiakbnaaGreatDoor
open Go.RowKit
/-- A type: its kind, the types that it holds, the names of its fields. -/
inductive Ty where
 |mk (kind : Int) (kids : List Ty) (names : List ByteArray)
def Ty.kind : Ty → Int | .mk k _ _ => k
def Ty.kids : Ty → List Ty | .mk _ k _ => k
def Ty.names : Ty → List ByteArray | .mk _ _ n => n
@[simp] theorem Ty.kind_mk (k : Int) (ks : List Ty) (ns : List ByteArray) : (Ty.mk k ks ns).kind = k := rfl
@[simp] theorem Ty.kids_mk (k : Int) (ks : List Ty) (ns : List ByteArray) : (Ty.mk k ks ns).kids = ks := rfl
@[simp] theorem Ty.names_mk (k : Int) (ks : List Ty) (ns : List ByteArray) : (Ty.mk k ks ns).names = ns := rfl
/-- No type. -/
def Ty.bad : Ty := .mk 0 [] []
/-- Only block R, and new ones, may differ. -/
def One (w w' : World) (R : Nat) : Prop :=
 w'.os = w.os ∧ w'.tape = w.tape ∧ w'.output = w.output ∧ w.heap.size ≤ w'.heap.size ∧ ∀ k, k < w.heap.size → k ≠ R → w'.heap[k]? = w.heap[k]?
theorem One.refl (w : World) (R : Nat) : One w w R := ⟨rfl, rfl, rfl, Nat.le_refl _, fun _ _ _ => rfl⟩
theorem One.of_ext {w w' : World} (h : Ext w w') (R : Nat) : One w w' R := ⟨h.os, h.tape, h.output, h.size, fun k hk _ => h.block k hk⟩
theorem One.trans {a b c : World} {R : Nat} (h : One a b R) (k : One b c R) : One a c R :=
 ⟨k.1.trans h.1, k.2.1.trans h.2.1, k.2.2.1.trans h.2.2.1, Nat.le_trans h.2.2.2.1 k.2.2.2.1, fun i hi hr => (k.2.2.2.2 i (Nat.lt_of_lt_of_le hi h.2.2.2.1) hr).trans (h.2.2.2.2 i hi hr)⟩
theorem One.alloc {w w' : World} {R : Nat} (h : One w w' R) (o : Obj) : One w (w'.alloc o) R := h.trans (One.of_ext ((Ext.refl w').alloc o) R)
theorem One.drew {w w' : World} {R : Nat} (h : One w w' R) : One w w'.drew R := h
theorem One.drewN {w w' : World} {R : Nat} (h : One w w' R) (n : Nat) : One w (w'.drewN n) R := h
theorem One.set {w w' : World} {R : Nat} (h : One w w' R) {p : Addr} (hp : p.block = R ∨ w.heap.size ≤ p.block) (u : Value) : One w (w'.setCell p u) R :=
 ⟨h.1, h.2.1, h.2.2.1, by simpa [World.setCell] using h.2.2.2.1, fun k hk hr => (Below.heap_setCell w' p u k (by rcases hp with hp | hp <;> omega)).trans (h.2.2.2.2 k hk hr)⟩
theorem One.blk {w w' : World} {R g : Nat} {t : TypeId} {cs : Array Value} (h : One w w' R) (hb : Blk w g t cs) (hr : g ≠ R) : Blk w' g t cs := (h.2.2.2.2 g hb.lt hr).trans hb
theorem One.cell {w w' : World} {R b o : Nat} (h : One w w' R) (hb : b < w.heap.size) (hr : b ≠ R) : w'.cell? ⟨b, o, none⟩ = w.cell? ⟨b, o, none⟩ :=
 World.cell?_of_block (a := ⟨b, o, none⟩) (h.2.2.2.2 b hb hr)
/-- Only blocks of a set, and new ones, may differ. -/
def Onx (X : Nat → Prop) (w w' : World) : Prop := w.heap.size ≤ w'.heap.size ∧ ∀ k, k < w.heap.size → ¬ X k → w'.heap[k]? = w.heap[k]?
theorem One.onx {w w' : World} {R : Nat} (h : One w w' R) {X : Nat → Prop} (hX : X R) : Onx X w w' := ⟨h.2.2.2.1, fun k hk hx => h.2.2.2.2 k hk (by rintro rfl; exact hx hX)⟩
theorem Onx.of_ext {w w' : World} (h : Ext w w') (X : Nat → Prop) : Onx X w w' := ⟨h.size, fun k hk _ => h.block k hk⟩
theorem Onx.trans {X : Nat → Prop} {a b c : World} (h : Onx X a b) (k : Onx X b c) : Onx X a c :=
 ⟨Nat.le_trans h.1 k.1, fun i hi hx => (k.2 i (Nat.lt_of_lt_of_le hi h.1) hx).trans (h.2 i hi hx)⟩
theorem Onx.set {X : Nat → Prop} {w w' : World} (h : Onx X w w') {p : Addr} (hp : X p.block ∨ w.heap.size ≤ p.block) (u : Value) : Onx X w (w'.setCell p u) :=
 ⟨by simpa [World.setCell] using h.1, fun k hk hx => (Below.heap_setCell w' p u k (hp.elim (fun hp e => hx (e ▸ hp)) (fun hp e => by omega))).trans (h.2 k hk hx)⟩
theorem Onx.grown {X : Nat → Prop} {w w' w2 : World} (h : Onx X w w') {row : Option Nat} (hg : w'.grownBy w2 row) (hr : ∀ k, row = some k → X k ∨ w.heap.size ≤ k) : Onx X w w2 :=
 ⟨Nat.le_trans h.1 hg.size, fun k hk hx => (hg.block k (Nat.lt_of_lt_of_le hk h.1) (fun e => (hr k e.symm).elim (fun h => hx h) (fun h => by omega))).trans (h.2 k hk hx)⟩
/-- A row of cells outside of a set of blocks. -/
def SegR (X : Nat → Prop) (w : World) (A : Option Addr) (xs : List Value) : Prop :=
 xs ≠ [] → ∃ b o, A = some ⟨b, o, none⟩ ∧ b < w.heap.size ∧ ¬ X b ∧ ∀ j u, xs[j]? = some u → w.cell? ⟨b, o + j, none⟩ = some u
theorem SegR.onx {X : Nat → Prop} {w w' : World} {A : Option Addr} {xs : List Value} (h : SegR X w A xs) (ho : Onx X w w') : SegR X w' A xs := fun hn => by
 obtain ⟨b, o, e, hb, hr, hc⟩ := h hn
 exact ⟨b, o, e, Nat.lt_of_lt_of_le hb ho.1, hr, fun j u hu => (World.cell?_of_block (a := ⟨b, o + j, none⟩) (ho.2 b hb hr)).trans (hc j u hu)⟩
theorem SegR.weak {X X' : Nat → Prop} {w : World} {A : Option Addr} {xs : List Value} (h : SegR X w A xs) (hx : ∀ b, X' b → X b ∨ w.heap.size ≤ b) : SegR X' w A xs := fun hn => by
 obtain ⟨b, o, e, hb, hr, hc⟩ := h hn
 exact ⟨b, o, e, hb, fun h' => (hx b h').elim (fun h' => hr h') (fun h' => by omega), hc⟩
theorem SegR.nil (X : Nat → Prop) (w : World) (A : Option Addr) : SegR X w A [] := fun h => absurd rfl h
/-- A value reads as a type, outside of a set of blocks. -/
def TyAt (X : Nat → Prop) : Nat → World → Value → Ty → Prop
 |0, _, _, _ => False
 |n + 1, w, v, T => ∃ A c A' c' cs, v = .agg #[.int .i64 T.kind, .slice A T.kids.length c, .slice A' T.names.length c'] ∧ T.kids.length ≤ c ∧ c ≤ maxLen ∧ T.names.length ≤ c' ∧ c' ≤ maxLen ∧ (∀ s ∈ T.names, s.size ≤ maxLen) ∧
   SegR X w A' (T.names.map Value.string) ∧ cs.length = T.kids.length * 3 ∧ SegR X w A cs ∧
   ∀ (i : Nat) (t : Ty), T.kids[i]? = some t → ∃ a b d, cs[i * 3]? = some a ∧ cs[i * 3 + 1]? = some b ∧ cs[i * 3 + 2]? = some d ∧ TyAt X n w (.agg #[a, b, d]) t
theorem TyAt.onx {X : Nat → Prop} {w w' : World} (ho : Onx X w w') : ∀ (n : Nat) (v : Value) (T : Ty), TyAt X n w v T → TyAt X n w' v T
 |0, _, _, h => h
 |n + 1, v, T, h => by
  obtain ⟨A, c, A', c', cs, hv, h1, h2, h3, h4, hs, h5, h6, h7, h8⟩ := h
  refine ⟨A, c, A', c', cs, hv, h1, h2, h3, h4, hs, h5.onx ho, h6, h7.onx ho, fun i t ht => ?_⟩
  obtain ⟨a, b, d, ha, hb, hd, hk⟩ := h8 i t ht
  exact ⟨a, b, d, ha, hb, hd, TyAt.onx ho n _ t hk⟩
theorem TyAt.weak {X X' : Nat → Prop} {w : World} (hx : ∀ b, X' b → X b ∨ w.heap.size ≤ b) : ∀ (n : Nat) (v : Value) (T : Ty), TyAt X n w v T → TyAt X' n w v T
 |0, _, _, h => h
 |n + 1, v, T, h => by
  obtain ⟨A, c, A', c', cs, hv, h1, h2, h3, h4, hs, h5, h6, h7, h8⟩ := h
  refine ⟨A, c, A', c', cs, hv, h1, h2, h3, h4, hs, h5.weak hx, h6, h7.weak hx, fun i t ht => ?_⟩
  obtain ⟨a, b, d, ha, hb, hd, hk⟩ := h8 i t ht
  exact ⟨a, b, d, ha, hb, hd, TyAt.weak hx n _ t hk⟩
theorem TyAt.form {X : Nat → Prop} {n : Nat} {w : World} {v : Value} {T : Ty} (h : TyAt X n w v T) : ∃ A c A' c', v = .agg #[.int .i64 T.kind, .slice A T.kids.length c, .slice A' T.names.length c'] := by
 cases n with
 |zero => exact h.elim
 |succ n =>
  obtain ⟨A, c, A', c', cs, hv, _⟩ := h
  exact ⟨A, c, A', c', hv⟩
theorem TyAt.form3 {X : Nat → Prop} {n : Nat} {w : World} {a b d : Value} {T : Ty} (h : TyAt X n w (.agg #[a, b, d]) T) : ∃ A c A' c', a = .int .i64 T.kind ∧ b = .slice A T.kids.length c ∧ d = .slice A' T.names.length c' := by
 obtain ⟨A, c, A', c', hv⟩ := h.form
 simp only [Value.agg.injEq, Array.mk.injEq, List.cons.injEq, and_true] at hv
 exact ⟨A, c, A', c', hv.1, hv.2.1, hv.2.2⟩
theorem TyAt.bad (X : Nat → Prop) (n : Nat) (w : World) : TyAt X (n + 1) w (.agg #[.int .i64 0, .slice none 0 0, .slice none 0 0]) Ty.bad :=
 ⟨none, 0, none, 0, [], rfl, Nat.le_refl _, Nat.zero_le _, Nat.le_refl _, Nat.zero_le _, fun _ h => by simp [Ty.bad] at h, SegR.nil _ _ _, rfl, SegR.nil _ _ _, fun i t ht => by simp [Ty.bad] at ht⟩
/-- The numbers of a known type: its kind, how many it holds. -/
def Shape (T : Ty) : Prop :=
 ((T.kind = 32 ∨ T.kind = 34) ∧ T.kids.length = 1 ∧ T.names = []) ∨ (T.kind = 33 ∧ T.kids.length = 2 ∧ T.names = []) ∨ (T.kind = 49 ∧ 1 ≤ T.kids.length ∧ T.kids.length ≤ 10 ∧ T.names = []) ∨
  (T.kind = 48 ∧ 1 ≤ T.kids.length ∧ T.kids.length ≤ 10 ∧ T.names.length = T.kids.length ∧ T.names.Nodup) ∨ (1 ≤ T.kind ∧ T.kind ≤ 21 ∧ T.kind ≠ 10 ∧ T.kids = [] ∧ T.names = [])
/-- A known type, so deep at the most. -/
def Good : Nat → Ty → Prop
 |0, _ => False
 |n + 1, T => (∀ k ∈ T.kids, Good n k) ∧ Shape T
/-- A copy, of which parts may be cut off. -/
inductive Cut : Ty → Ty → Prop
 |bad (T : Ty) : Cut Ty.bad T
 |node (k : Int) (ks ks' : List Ty) (ns : List ByteArray) (hl : ks'.length = ks.length) (h : ∀ (i : Nat) (a b : Ty), ks'[i]? = some a → ks[i]? = some b → Cut a b) : Cut (.mk k ks' ns) (.mk k ks ns)
/-- A copy that is known is whole. -/
theorem cut_good : ∀ (n : Nat) (T' T : Ty), Good n T' → Cut T' T → T' = T
 |0, _, _, h, _ => h.elim
 |n + 1, T', T, h, hc => by
  cases hc with
  |bad T =>
   obtain ⟨_, hs⟩ := h
   simp [Shape, Ty.bad] at hs
  |node k ks ks' ns hl hk =>
   congr 1
   refine List.ext_getElem hl fun i h1 h2 => ?_
   have e1 : ks'[i]? = some ks'[i] := List.getElem?_eq_getElem h1
   have e2 : ks[i]? = some ks[i] := List.getElem?_eq_getElem h2
   exact cut_good n _ _ (h.1 _ (List.getElem_mem h1)) (hk i _ _ e1 e2)
end Go.Proofs.YtammjbmfiakbnaaGreatDoor
namespace Go.Proofs.YtammjbmfiakbnaaGreatDoor
open Go.ChangeShapes Go.WideShapes Go.ChangeAt Go.RowKit
theorem TyAt.up {X : Nat → Prop} {w : World} : ∀ (n : Nat) (v : Value) (T : Ty), TyAt X n w v T → TyAt X (n + 1) w v T
 |0, _, _, h => h.elim
 |n + 1, v, T, h => by
  obtain ⟨A, c, A', c', cs, hv, h1, h2, h3, h4, hs, h5, h6, h7, h8⟩ := h
  refine ⟨A, c, A', c', cs, hv, h1, h2, h3, h4, hs, h5, h6, h7, fun i t ht => ?_⟩
  obtain ⟨a, b, d, ha, hb, hd, hk⟩ := h8 i t ht
  exact ⟨a, b, d, ha, hb, hd, TyAt.up n _ t hk⟩
theorem list_choose {α : Type} {P : Nat → α → Prop} : ∀ (n : Nat), (∀ i, i < n → ∃ a, P i a) → ∃ l : List α, l.length = n ∧ ∀ i a, l[i]? = some a → P i a
 |0, _ => ⟨[], rfl, fun i a h => by simp at h⟩
 |n + 1, h => by
  obtain ⟨l, hl, hP⟩ := list_choose n fun i hi => h i (by omega)
  obtain ⟨a, ha⟩ := h n (by omega)
  refine ⟨l ++ [a], by simp [hl], fun i b hb => ?_⟩
  rcases Nat.lt_or_ge i n with hi | hi
  ·rw [List.getElem?_append_left (by omega)] at hb
   exact hP i b hb
  ·have := (List.getElem?_eq_some_iff.1 hb).1
   simp only [List.length_append, List.length_cons, List.length_nil] at this
   obtain rfl : i = n := by omega
   rw [List.getElem?_append_right (by omega), hl] at hb
   simp only [Nat.sub_self, List.getElem?_cons_zero, Option.some.injEq] at hb
   subst hb
   exact ha
theorem cell_lt' {w : World} {a : Addr} {v : Value} (h : w.cell? a = some v) : a.block < w.heap.size := World.block_lt_of_cell? (a := a) w h
theorem segR_of {W : World} {a : Addr} {xs : List Value} (h : ∀ j u, xs[j]? = some u → W.cell? (a.add j) = some u) : SegR (fun _ => False) W (some a) xs := fun hne => by
 obtain ⟨b, o, s⟩ := a
 cases xs with
 |nil => exact absurd rfl hne
 |cons u us =>
  have h0 := h 0 u rfl
  have hs : s = none := by simpa [Addr.add] using World.cell?_spot h0
  subst hs
  refine ⟨b, o, rfl, by simpa [Addr.add] using cell_lt' h0, fun h => h, fun j u' hu => ?_⟩
  have := h j u' hu
  have hadd : (⟨b, o, none⟩ : Addr).add j = ⟨b, o + j, none⟩ := by unfold Addr.add; split <;> simp_all
  rwa [hadd] at this
theorem addr_add (a : Addr) (i j : Nat) : (a.add i).add j = a.add (i + j) := by
 unfold Addr.add
 by_cases hi : i = 0 <;> by_cases hj : j = 0 <;> simp [hi, hj, Nat.add_assoc]
section
variable {H : Type} {enc : TypeId × Value → H} {W : World} {spare : Nat → Bool} {held : Bool}
/-- A row of cells, each read by itself. -/
theorem cells_row {t : TypeId} {k : Nat} {a : Addr} {len n : Nat} {elems : List (DataW H × List MemPlace)} (hk : Tryz.prog.cellsOf t = k) (hlen : elems.length = len)
  (hel : ∀ i, i < len → (W.cells? 0 (a.add (i * Tryz.prog.cellsOf t)) (Tryz.prog.cellsOf t)).bind (DataW.trod enc Tryz.prog W 0 spare held n t) = elems[i]?) :
  ∃ xs : List Value, xs.length = len * k ∧ (∀ j u, xs[j]? = some u → W.cell? (a.add j) = some u) ∧
   ∀ i, i < len → ∃ y, DataW.trod enc Tryz.prog W 0 spare held n t ((xs.drop (i * k)).take k) = some y := by
 subst hk
 have each : ∀ i, i < len → ∃ cs y, W.cells? 0 (a.add (i * Tryz.prog.cellsOf t)) (Tryz.prog.cellsOf t) = some cs ∧ DataW.trod enc Tryz.prog W 0 spare held n t cs = some y := fun i hi => by
  have h1 := hel i hi
  rw [List.getElem?_eq_getElem (by omega), Option.bind_eq_some_iff] at h1
  obtain ⟨cs, hcs, hy⟩ := h1
  exact ⟨cs, _, hcs, hy⟩
 obtain ⟨xs, hxl, hxs⟩ := list_choose (P := fun j u => W.cell? (a.add j) = some u) (len * Tryz.prog.cellsOf t) fun j hj => by
  have hk0 : 0 < Tryz.prog.cellsOf t := Nat.pos_of_ne_zero (by intro e; rw [e] at hj; omega)
  have hi : j / Tryz.prog.cellsOf t < len := (Nat.div_lt_iff_lt_mul hk0).2 hj
  obtain ⟨cs, y, hcs, _⟩ := each _ hi
  obtain ⟨_, hl, hc⟩ := World.cells?_some hcs
  have hm := Nat.mod_lt j hk0
  have h2 := hc _ hm
  rw [addr_add, Nat.mul_comm, Nat.div_add_mod, List.getElem?_eq_getElem (by omega)] at h2
  exact ⟨_, h2⟩
 refine ⟨xs, hxl, hxs, fun i hi => ?_⟩
 obtain ⟨cs, y, hcs, hy⟩ := each i hi
 obtain ⟨_, hl, hc⟩ := World.cells?_some hcs
 refine ⟨y, ?_⟩
 have hle : i * Tryz.prog.cellsOf t + Tryz.prog.cellsOf t ≤ len * Tryz.prog.cellsOf t := by
  rw [← Nat.succ_mul]
  exact Nat.mul_le_mul_right _ hi
 have e : (xs.drop (i * Tryz.prog.cellsOf t)).take (Tryz.prog.cellsOf t) = cs := by
  refine List.ext_getElem? fun j => ?_
  rw [List.getElem?_take]
  split
  ·rename_i hj
   rw [List.getElem?_drop, ← hc j hj, addr_add, List.getElem?_eq_getElem (by omega)]
   exact (hxs _ _ (List.getElem?_eq_getElem (by omega))).symm
  ·rename_i hj
   rw [List.getElem?_eq_none (by omega)]
 rw [e]
 exact hy
theorem names_row {fuel : Nat} {cs : List Value} {x : DataW H × List MemPlace} (h : DataW.trod enc Tryz.prog W 0 spare held fuel 23 cs = some x) :
  ∃ A c, ∃ ns : List ByteArray, cs = [.slice A ns.length c] ∧ ns.length ≤ c ∧ c ≤ maxLen ∧ (∀ s ∈ ns, s.size ≤ maxLen) ∧ SegR (fun _ => False) W A (ns.map Value.string) := by
 rcases DataW.trod_slice Tryz.underlying23 h with ⟨rfl, _⟩ | ⟨a, len, cap, elems, rest, n, _, rfl, rfl, hb, hl, hm, hlen, hel, _, _⟩
 ·exact ⟨none, 0, [], rfl, Nat.le_refl _, Nat.zero_le _, fun s h => by simp at h, SegR.nil _ _ _⟩
 ·obtain ⟨xs, hxl, hxs, hx⟩ := cells_row (k := 1) (by kernel_rfl) hlen hel
  obtain ⟨ns, hnl, hns⟩ := list_choose (P := fun i (s : ByteArray) => xs[i]? = some (.string s) ∧ s.size ≤ maxLen) len fun i hi => by
   obtain ⟨y, hy⟩ := hx i hi
   obtain ⟨s, hs, _, hsz⟩ := DataW.trod_string Tryz.underlying9 hy
   refine ⟨s, ?_, hsz⟩
   have : ((xs.drop (i * 1)).take 1)[0]? = some (.string s) := by rw [hs]; rfl
   rw [List.getElem?_take, if_pos (by omega), List.getElem?_drop] at this
   simpa using this
  subst hnl
  refine ⟨some a, cap, ns, rfl, hl, hm, fun s hs => ?_, segR_of fun j u hu => ?_⟩
  ·obtain ⟨i, hi, e⟩ := List.mem_iff_getElem.1 hs
   exact (hns i s (by rw [List.getElem?_eq_getElem hi, e])).2
  ·rw [List.getElem?_map, Option.map_eq_some_iff] at hu
   obtain ⟨s, hs, rfl⟩ := hu
   exact hxs j _ (hns j s hs).1
set_option maxRecDepth 10000 in
theorem tyAt_trod : ∀ (fuel : Nat) (cs : List Value) (x : DataW H × List MemPlace), DataW.trod enc Tryz.prog W 0 spare held fuel 25 cs = some x → ∃ T, TyAt (fun _ => False) fuel W (.agg cs.toArray) T := by
 intro fuel
 induction fuel using Nat.strongRecOn with
 |ind fuel ih =>
 intro cs x h
 obtain ⟨xs, n, rfl, _, hcl, hxl, hf⟩ := DataW.trod_struct Tryz.underlying25 h
 have c25 : Tryz.prog.cellsOf 25 = 3 := by kernel_rfl
 have hc3 : cs.length = 3 := hcl.trans c25
 obtain ⟨a, b, c, rfl⟩ : ∃ a b c, cs = [a, b, c] := by
  match cs, hc3 with
  |[a, b, c], _ => exact ⟨a, b, c, rfl⟩
 have c3 : Tryz.prog.cellsOf 3 = 1 := by kernel_rfl
 have c22 : Tryz.prog.cellsOf 22 = 1 := by kernel_rfl
 have c23 : Tryz.prog.cellsOf 23 = 1 := by kernel_rfl
 have hxl' : xs.length = 3 := hxl
 have f0 : DataW.trod enc Tryz.prog W 0 spare held n 3 (([a, b, c].drop 0).take (Tryz.prog.cellsOf 3)) = xs[0]? := hf 0 _ rfl
 have f1 : DataW.trod enc Tryz.prog W 0 spare held n 22 (([a, b, c].drop 1).take (Tryz.prog.cellsOf 22)) = xs[1]? := hf 1 _ rfl
 have f2 : DataW.trod enc Tryz.prog W 0 spare held n 23 (([a, b, c].drop 2).take (Tryz.prog.cellsOf 23)) = xs[2]? := hf 2 _ rfl
 rw [List.getElem?_eq_getElem (by omega), c3] at f0
 rw [List.getElem?_eq_getElem (by omega), c22] at f1
 rw [List.getElem?_eq_getElem (by omega), c23] at f2
 simp only [List.drop_zero, List.drop_succ_cons, List.take_succ_cons, List.take_zero] at f0 f1 f2
 obtain ⟨k, hk, _, _⟩ := DataW.trod_int Tryz.underlying3 f0
 obtain ⟨A', c', ns, hns, h3, h4, hnb, h5⟩ := names_row f2
 simp only [List.cons.injEq, and_true] at hk hns
 subst hk; subst hns
 rcases DataW.trod_slice Tryz.underlying22 f1 with ⟨hb, _⟩ | ⟨ad, len, cap, elems, rest, n', hn', hb, _, _, hl, hm, hlen, hel, _, _⟩
 ·simp only [List.cons.injEq, and_true] at hb
  subst hb
  exact ⟨.mk k [] ns, none, 0, A', c', [], rfl, Nat.le_refl _, Nat.zero_le _, h3, h4, hnb, h5, rfl, SegR.nil _ _ _, fun i t ht => by simp at ht⟩
 ·simp only [List.cons.injEq, and_true] at hb
  subst hb
  subst hn'
  obtain ⟨ys, hyl, hys, hy⟩ := cells_row (k := 3) (by kernel_rfl) hlen hel
  obtain ⟨Ts, hTl, hTs⟩ := list_choose (P := fun i (t : Ty) => ∃ a b d, ys[i * 3]? = some a ∧ ys[i * 3 + 1]? = some b ∧ ys[i * 3 + 2]? = some d ∧ TyAt (fun _ => False) n' W (.agg #[a, b, d]) t) len fun i hi => by
   obtain ⟨y, hy'⟩ := hy i hi
   obtain ⟨t, ht⟩ := ih n' (by omega) _ _ hy'
   have hl3 : i * 3 + 2 < ys.length := by omega
   have e : (ys.drop (i * 3)).take 3 = [ys[i * 3], ys[i * 3 + 1], ys[i * 3 + 2]] := by
    refine List.ext_getElem? fun j => ?_
    rw [List.getElem?_take]
    split
    ·rename_i hj
     rw [List.getElem?_drop]
     rcases (show j = 0 ∨ j = 1 ∨ j = 2 by omega) with rfl | rfl | rfl
     ·rw [List.getElem?_eq_getElem (by omega)]; rfl
     ·rw [List.getElem?_eq_getElem (by omega)]; rfl
     ·rw [List.getElem?_eq_getElem (by omega)]; rfl
    ·rename_i hj
     rw [List.getElem?_eq_none (by simp; omega)]
   rw [e] at ht
   exact ⟨t, _, _, _, List.getElem?_eq_getElem (by omega), List.getElem?_eq_getElem (by omega), List.getElem?_eq_getElem (by omega), ht⟩
  subst hTl
  refine ⟨.mk k Ts ns, some ad, cap, A', c', ys, rfl, hl, hm, h3, h4, hnb, h5, hyl, segR_of hys, fun i t ht => ?_⟩
  obtain ⟨a, b, d, ha, hb, hd, hT⟩ := hTs i t ht
  exact ⟨a, b, d, ha, hb, hd, TyAt.up _ _ _ hT⟩
end
end Go.Proofs.YtammjbmfiakbnaaGreatDoor
namespace Go.Proofs.YtammjbmfiakbnaaGreatDoor
open Go
section
variable {P : Program} {ops : Array Oper} {Q : Exit → Act → World → Prop} {md : Region.Mode} {S : World → Prop} {N : Nat → Bool}
theorem at_of_drop {i : Nat} {o : Oper} {rest : List Oper} (h : ops.toList.drop i = o :: rest) : ops[i]? = some o := by
 have h1 : (ops.toList.drop i)[0]? = some o := by rw [h]; rfl
 rw [List.getElem?_drop] at h1
 simpa using h1
/-- Whatever order is picked from here on; and S holds behind every operation of N that is carried out. -/
def wpAnyK (P : Program) (md : Region.Mode) (ops : Array Oper) (Q : Exit → Act → World → Prop) (S : World → Prop) (N : Nat → Bool) : Nat → Array Bool → Act → World → Prop
 |0, listed, a, w => Region.ready md ops listed = [] ∧ Q .normal a w
 |fuel + 1, listed, a, w =>
  (Region.ready md ops listed = [] → Q .normal a w) ∧
  ∀ i ∈ Region.ready md ops listed, wpOp P ops Q i (fun a' w' => (N i = true → S w') ∧ wpAnyK P md ops Q S N fuel (listed.setIfInBounds i true) a' w') a w
theorem wpAny_of_K : ∀ (fuel : Nat) (listed : Array Bool) (a : Act) (w : World), wpAnyK P md ops Q S N fuel listed a w → wpAny P md ops Q fuel listed a w
 |0, _, _, _, h => h
 |fuel + 1, _, _, _, h => ⟨h.1, fun i hi => wpOp_mono (fun a' w' h' => wpAny_of_K fuel _ a' w' h'.2) (h.2 i hi)⟩
/-- Whoever is of D waits for i, or for another of D; whoever is not of N is of D, or has come up. -/
def waitsB (md : Region.Mode) (ops : Array Oper) (N D : Nat → Bool) (listed0 : Array Bool) (i : Nat) : Bool :=
 (List.range ops.size).all fun j => (listed0.getD j false || (N j || D j)) && (!D j || match ops[j]? with
  |some oj => oj.after.any fun e => Region.binds md e && (e.on == i || D e.on)
  |none => true)
/-- Nobody of D has come up. -/
def noneB (ops : Array Oper) (D : Nat → Bool) (listed : Array Bool) : Bool :=
 (List.range ops.size).all fun j => !D j || !listed.getD j true
theorem waits_spec {D : Nat → Bool} {i : Nat} {listed0 : Array Bool} (h : waitsB md ops N D listed0 i = true) {listed : Array Bool} (hn : ∀ k, k < ops.size → D k = true → listed.getD k true = false) (hi : listed.getD i false = false) (hsz : listed.size = ops.size)
  (hl0 : ∀ k, listed0.getD k false = true → listed.getD k true = true) {j : Nat} (hj : j ∈ Region.ready md ops listed) : N j = true ∧ D j = false := by
 obtain ⟨hjun, oj, hoj, hall⟩ := mem_ready.1 hj
 have hlt := (Array.getElem?_eq_some_iff.1 hoj).1
 simp only [waitsB, List.all_eq_true, List.mem_range, Bool.and_eq_true, Bool.or_eq_true, Bool.not_eq_true'] at h
 obtain ⟨h0, h1⟩ := h j hlt
 cases hD : D j with
 |false =>
  rcases h0 with h0 | h0 | h0
  ·rw [hl0 j h0] at hjun; cases hjun
  ·exact ⟨h0, rfl⟩
  ·rw [hD] at h0; cases h0
 |true =>
  rw [hD, hoj] at h1
  rcases h1 with h1 | h1
  ·cases h1
  simp only [Array.any_eq_true, Bool.and_eq_true, Bool.or_eq_true, beq_iff_eq] at h1
  obtain ⟨k, hk, hb, he⟩ := h1
  have h2 := hall _ (Array.getElem_mem hk) hb
  rcases he with he | he
  ·rw [he] at h2
   rw [hi] at h2
   cases h2
  ·have hlt2 : oj.after[k].on < ops.size := by
    rcases Nat.lt_or_ge oj.after[k].on listed.size with h' | h'
    ·omega
    ·rw [Array.getD_eq_getD_getElem?, Array.getElem?_eq_none h'] at h2; cases h2
   have h3 := hn _ hlt2 he
   rw [Array.getD_eq_getD_getElem?, Array.getElem?_eq_getElem (by omega)] at h2 h3
   simp only [Option.getD_some] at h2 h3
   rw [h2] at h3
   cases h3
theorem wpAnyK_first {S0 : World → Prop} {i : Nat} {oi : Oper} {v : Value} (hi : ops[i]? = some oi) (hsel : ∀ (j : Nat) (o : Oper) cs b, ops[j]? = some o → o.op ≠ .select cs b)
  (hQ : ∀ c a w, Q (.panic c) (a.put oi.dst v) w → Q (.panic c) a w) (I : Array Bool → Prop)
  (hI : ∀ (listed : Array Bool) (j : Nat), I listed → i ∈ Region.ready md ops listed → j ∈ Region.ready md ops listed → j ≠ i → I (listed.setIfInBounds j true) ∧ ∀ w', (N j = true → S w') → S0 w') :
  ∀ (fuel : Nat) (listed : Array Bool) (a : Act) (w : World),
   (∀ j oj, ops[j]? = some oj → j ≠ i → listed.getD j true = false → (∀ e ∈ oj.after, Region.binds md e = true → e.on ≠ i) → oi.apart ops oj = true) →
   I listed →
   i ∈ Region.ready md ops listed → YieldsIf P ops S0 oi v a → S0 w → (N i = true → S0 w → S w) →
   wpAnyK P md ops Q S N fuel (listed.setIfInBounds i true) (a.put oi.dst v) w → (∀ w', N i = true → S0 w' → S w') → wpAnyK P md ops Q S N (fuel + 1) listed a w := by
 intro fuel
 induction fuel with
 |zero =>
  intro listed a w _ _ hr hy hS hNi H hNS
  refine ⟨fun h => (by rw [h] at hr; cases hr), fun j hj => ?_⟩
  by_cases hji : j = i
  ·subst hji; exact hy.wpOp hi hS ⟨fun h => hNi h hS, H⟩
  ·have := ready_mono hj hji
   rw [H.1] at this
   cases this
 |succ fuel ih =>
  intro listed a w hfree hIl hr hy hS hNi H hNS
  refine ⟨fun h => (by rw [h] at hr; cases hr), fun j hj => ?_⟩
  by_cases hji : j = i
  ·subst hji; exact hy.wpOp hi hS ⟨fun h => hNi h hS, H⟩
  ·have h1 := H.2 j (ready_mono hj hji)
   obtain ⟨hjun, oj, hoj, hall⟩ := mem_ready.1 hj
   obtain ⟨hI', hSS⟩ := hI listed j hIl hr hj hji
   have hnot : ∀ e ∈ oj.after, Region.binds md e = true → e.on ≠ i := fun e he hb heq => by
    have h1 := hall e he hb
    have h0 := (mem_ready.1 hr).1
    rw [heq] at h1
    rcases Nat.lt_or_ge i listed.size with h' | h'
    ·simp [h'] at h0 h1; rw [h0] at h1; cases h1
    ·simp [Array.getElem?_eq_none h'] at h1
   have h2 := wpOp_putIf hoj (hfree j oj hoj hji hjun hnot) (fun cs b => hsel i oi cs b hi) (fun cs b => hsel j oj cs b hoj) hQ hy h1
   have hfree' : ∀ k ok, ops[k]? = some ok → k ≠ i → (listed.setIfInBounds j true).getD k true = false →
     (∀ e ∈ ok.after, Region.binds md e = true → e.on ≠ i) → oi.apart ops ok = true := fun k ok hk hki hun hno => by
    refine hfree k ok hk hki ?_ hno
    by_cases hjk : j = k
    ·subst hjk; exact hjun
    ·rw [getD_set_ne true hjk] at hun; exact hun
   refine wpOp_mono (fun a' w' h3 => ⟨h3.2.1, ih (listed.setIfInBounds j true) a' w' hfree' hI' (ready_mono hr (Ne.symm hji)) h3.1 (hSS w' h3.2.1) (hNS w') ?_ hNS⟩) h2
   rw [Array.setIfInBounds_comm _ _ hji]
   exact h3.2.2
/-- All that is asked of the region's text for taking number i first. -/
def takeB (md : Region.Mode) (ops : Array Oper) (N D : Nat → Bool) (listed : Array Bool) (i : Nat) : Bool :=
 Region.noSelect ops && (Region.free md ops listed i && ((Region.ready md ops listed).contains i && (waitsB md ops N D listed i && (noneB ops D listed && listed.size == ops.size))))
/-- The same, where the operation yields in whatever world. -/
def freeB (md : Region.Mode) (ops : Array Oper) (N : Nat → Bool) (listed : Array Bool) (i : Nat) : Bool :=
 Region.noSelect ops && (Region.free md ops listed i && ((Region.ready md ops listed).contains i && !N i))
/-- Take number i first: it yields where S holds. -/
theorem wpAnyK_take (i : Nat) (D : Nat → Bool) {oi : Oper} {rest : List Oper} {v : Value} {fuel : Nat} {listed : Array Bool} {a : Act} {w : World} (hi' : ops.toList.drop i = oi :: rest)
  (hB : takeB md ops N D listed i = true)
  (hQ : ∀ c a w, Q (.panic c) (a.put oi.dst v) w → Q (.panic c) a w) (hS : S w) (hy : YieldsIf P ops S oi v a)
  (h : wpAnyK P md ops Q S N fuel (listed.setIfInBounds i true) (a.put oi.dst v) w) : wpAnyK P md ops Q S N (fuel + 1) listed a w := by
 have hi := at_of_drop hi'
 simp only [takeB, Bool.and_eq_true, beq_iff_eq] at hB
 obtain ⟨hs, hf, hr, hw, hno, hsz⟩ := hB
 have hno' : ∀ k, k < ops.size → D k = true → listed.getD k true = false := fun k hk hNk => by
  simp only [noneB, List.all_eq_true, List.mem_range] at hno
  have := hno k hk
  rw [hNk] at this
  simpa using this
 refine wpAnyK_first hi (Region.noSelect_spec hs) hQ (fun l => l.size = ops.size ∧ (∀ k, k < ops.size → D k = true → l.getD k true = false) ∧ ∀ k, listed.getD k false = true → l.getD k true = true) ?_ fuel listed a w (Region.free_spec hi hf) ⟨hsz, hno', fun k hk => by
  rw [Array.getD_eq_getD_getElem?] at hk ⊢
  cases h : listed[k]? <;> rw [h] at hk <;> simp_all⟩ (by simpa using hr) hy hS (fun _ h => h) h (fun _ _ h => h)
 rintro listed1 j ⟨hsz, hn, hl0⟩ hr hj hji
 have hilt := (Array.getElem?_eq_some_iff.1 hi).1
 have hi0 : listed1.getD i false = false := by
  have h0 := (mem_ready.1 hr).1
  rw [Array.getD_eq_getD_getElem?, Array.getElem?_eq_getElem (by omega)] at h0 ⊢
  simpa using h0
 obtain ⟨hNj, hDj⟩ := waits_spec hw hn hi0 hsz hl0 hj
 refine ⟨⟨by simpa using hsz, fun k hk hNk => ?_, fun k hk => ?_⟩, fun w' h => h hNj⟩
 ·have hjk : j ≠ k := by rintro rfl; rw [hDj] at hNk; cases hNk
  rw [getD_set_ne true hjk]
  exact hn k hk hNk
 ·by_cases hjk : j = k
  ·subst hjk
   rw [Array.getD_eq_getD_getElem?, Array.getElem?_setIfInBounds, if_pos rfl]
   split <;> rfl
  ·rw [getD_set_ne true hjk]
   exact hl0 k hk
/-- Take number i first: it yields in whatever world. -/
theorem wpAnyK_free (i : Nat) {oi : Oper} {rest : List Oper} {v : Value} {fuel : Nat} {listed : Array Bool} {a : Act} {w : World} (hi' : ops.toList.drop i = oi :: rest)
  (hB : freeB md ops N listed i = true)
  (hQ : ∀ c a w, Q (.panic c) (a.put oi.dst v) w → Q (.panic c) a w) (hy : Yields P ops oi v a)
  (h : wpAnyK P md ops Q S N fuel (listed.setIfInBounds i true) (a.put oi.dst v) w) : wpAnyK P md ops Q S N (fuel + 1) listed a w := by
 have hi := at_of_drop hi'
 simp only [freeB, Bool.and_eq_true, Bool.not_eq_true'] at hB
 obtain ⟨hs, hf, hr, hN⟩ := hB
 exact wpAnyK_first (S0 := fun _ => True) hi (Region.noSelect_spec hs) hQ (fun _ => True) (fun _ _ _ _ _ _ => ⟨trivial, fun _ _ => trivial⟩) fuel listed a w (Region.free_spec hi hf) trivial (by simpa using hr) hy.yieldsIf trivial
  (fun h => by rw [hN] at h; cases h) h (fun _ h => by rw [hN] at h; cases h)
/-- One operation comes up, no other. -/
theorem wpAnyK_one (i : Nat) {o : Oper} {rest : List Oper} {fuel : Nat} {listed : Array Bool} {a : Act} {w : World} (hr : Region.ready md ops listed = [i]) (ho' : ops.toList.drop i = o :: rest) (hgd : o.guard = none)
  (h : ∀ K' : Act → World → Prop, Shut (∀ a w, (N i = true → S w) → wpAnyK P md ops Q S N fuel (listed.setIfInBounds i true) a w → K' a w) → Oper.wp P o a w K' Q) : wpAnyK P md ops Q S N (fuel + 1) listed a w :=
 ⟨fun h0 => (by rw [h0] at hr; cases hr), fun j hj => by
  rw [hr] at hj
  obtain rfl : j = i := by simpa using hj
  refine wpOp_step (at_of_drop ho') (fun K' hK => ?_)
  have hw : Region.wanted o (yielded ops a.tmps) = true := by simp [Region.wanted, hgd]
  rw [if_pos hw]
  exact h K' (fun a w hS hW => hK a w ⟨hS, hW⟩)⟩
/-- All have come up. -/
theorem wpAnyK_done {listed : Array Bool} {a : Act} {w : World} (hr : Region.ready md ops listed = []) (h : Q .normal a w) : ∀ fuel, wpAnyK P md ops Q S N fuel listed a w
 |0 => ⟨hr, h⟩
 |_ + 1 => ⟨fun _ => h, by rw [hr]; simp⟩
/-- The beginning. -/
theorem wp_region_K (S : World → Prop) (N : Nat → Bool) (n : Nat) (l0 : List Bool) {id : Nat} {a : Act} {w : World} (hm : P.follows .mixedOrders = true) (hn : ops.size = n) (hl : List.replicate n false = l0)
  (h : wpAnyK P .any ops Q S N n l0.toArray a w.drew) : (Code.region id ops true).wp P Q a w := by
 subst hn
 refine wp_region_any hm (wpAny_of_K (S := S) (N := N) _ _ _ _ ?_)
 have e : Array.replicate ops.size false = l0.toArray := by rw [← hl]; simp
 rw [e]
 exact h
end
/-- A set of operations, listed. -/
def ix (l : List Nat) (j : Nat) : Bool := l.contains j
/-- A range of operations. -/
def rg (x y j : Nat) : Bool := Nat.ble x j && Nat.ble j y
theorem aP (a : Act) (d : Tmp) (v : Value) : a.put (some d) v = { tmps := a.tmps.setIfInBounds d v, defers := a.defers } := rfl
theorem aN (a : Act) (v : Value) : a.put none v = a := rfl
theorem aT {α : Type} (l : List α) (i : Nat) (x : α) : l.toArray.setIfInBounds i x = (l.set i x).toArray := List.setIfInBounds_toArray l i x
theorem aZ {α : Type} (y : α) (l : List α) (x : α) : (y :: l).set 0 x = x :: l := rfl
theorem aS {α : Type} (y : α) (l : List α) (i : Nat) (x : α) : (y :: l).set (i + 1) x = y :: l.set i x := rfl
section
variable {P : Program} {ops : Array Oper} {Q : Exit → Act → World → Prop} {md : Region.Mode} {S : World → Prop} {N : Nat → Bool}
/-- wpAnyK_take and wpAnyK_free, shorter: with a law, with a value, and where the guard is off. -/
theorem tG (i : Nat) (D : Nat → Bool) {oi : Oper} {rest : List Oper} {v : Value} {fuel : Nat} {listed : Array Bool} {a : Act} {w : World} (hi : ops.toList.drop i = oi :: rest) (hS : S w) (hy : YieldsIf P ops S oi v a)
  (h : wpAnyK P md ops Q S N fuel (listed.setIfInBounds i true) (a.put oi.dst v) w) (hB : takeB md ops N D listed i = true := by kernel_rfl) (hQ : ∀ c a w, Q (.panic c) (a.put oi.dst v) w → Q (.panic c) a w := by exact fun _ _ _ h => h) :
  wpAnyK P md ops Q S N (fuel + 1) listed a w := wpAnyK_take i D hi hB hQ hS hy h
theorem tV (i : Nat) (D : Nat → Bool) {oi : Oper} {rest : List Oper} {v : Value} {fuel : Nat} {listed : Array Bool} {a : Act} {w : World} (hi : ops.toList.drop i = oi :: rest) (hS : S w) (hw : Region.wanted oi (yielded ops a.tmps) = true)
  (hy : ∀ w, S w → (execOp a.eval oi).run P w = .ok (.value v) w) (h : wpAnyK P md ops Q S N fuel (listed.setIfInBounds i true) (a.put oi.dst v) w) (hB : takeB md ops N D listed i = true := by kernel_rfl)
  (hQ : ∀ c a w, Q (.panic c) (a.put oi.dst v) w → Q (.panic c) a w := by exact fun _ _ _ h => h) : wpAnyK P md ops Q S N (fuel + 1) listed a w := wpAnyK_take i D hi hB hQ hS (.inl ⟨hw, hy⟩) h
theorem tU (i : Nat) (D : Nat → Bool) {oi : Oper} {rest : List Oper} {fuel : Nat} {listed : Array Bool} {a : Act} {w : World} (hi : ops.toList.drop i = oi :: rest) (hS : S w) (hw : Region.wanted oi (yielded ops a.tmps) = false)
  (h : wpAnyK P md ops Q S N fuel (listed.setIfInBounds i true) (a.put oi.dst undef) w) (hB : takeB md ops N D listed i = true := by kernel_rfl)
  (hQ : ∀ c a w, Q (.panic c) (a.put oi.dst undef) w → Q (.panic c) a w := by exact fun _ _ _ h => h) : wpAnyK P md ops Q S N (fuel + 1) listed a w := wpAnyK_take i D hi hB hQ hS (.inr ⟨hw, rfl⟩) h
theorem fV (i : Nat) {oi : Oper} {rest : List Oper} {v : Value} {fuel : Nat} {listed : Array Bool} {a : Act} {w : World} (hi : ops.toList.drop i = oi :: rest) (hw : Region.wanted oi (yielded ops a.tmps) = true)
  (hy : ∀ w, (execOp a.eval oi).run P w = .ok (.value v) w) (h : wpAnyK P md ops Q S N fuel (listed.setIfInBounds i true) (a.put oi.dst v) w) (hB : freeB md ops N listed i = true := by kernel_rfl)
  (hQ : ∀ c a w, Q (.panic c) (a.put oi.dst v) w → Q (.panic c) a w := by exact fun _ _ _ h => h) : wpAnyK P md ops Q S N (fuel + 1) listed a w := wpAnyK_free i hi hB hQ (.inl ⟨hw, hy⟩) h
theorem fU (i : Nat) {oi : Oper} {rest : List Oper} {fuel : Nat} {listed : Array Bool} {a : Act} {w : World} (hi : ops.toList.drop i = oi :: rest) (hw : Region.wanted oi (yielded ops a.tmps) = false)
  (h : wpAnyK P md ops Q S N fuel (listed.setIfInBounds i true) (a.put oi.dst undef) w) (hB : freeB md ops N listed i = true := by kernel_rfl)
  (hQ : ∀ c a w, Q (.panic c) (a.put oi.dst undef) w → Q (.panic c) a w := by exact fun _ _ _ h => h) : wpAnyK P md ops Q S N (fuel + 1) listed a w := wpAnyK_free i hi hB hQ (.inr ⟨hw, rfl⟩) h
end
end Go.Proofs.YtammjbmfiakbnaaGreatDoor
namespace Go.Proofs.YtammjbmfiakbnaaGreatDoor
open Instr (missingMethod least)
def misses (want : Array (String × TypeId)) (got : Array Method) : Bool := want.toList.any fun (name, sig) => !got.any fun m => m.name == name && m.sig == sig
theorem least_cons (s : String) (l : List String) : ∃ x, least (s :: l) = some x := ⟨_, rfl⟩
theorem orElse_some {α : Type} (a b : Option α) (h : ∃ x, b = some x) : ∃ x, (a <|> b) = some x := by
 obtain ⟨x, rfl⟩ := h
 cases a with
 |none => exact ⟨x, rfl⟩
 |some y => exact ⟨y, rfl⟩
theorem least_parts (p : String → Bool) (f : String → String) (s : String) (l : List String) : ∃ x, (least ((s :: l).filter (not ∘ p)) <|> least (((s :: l).filter p).map f)) = some x := by
 by_cases hc : p s = true
 ·refine orElse_some _ _ ?_
  rw [List.filter_cons, if_pos hc, List.map_cons]
  exact least_cons _ _
 ·rw [List.filter_cons_of_pos (p := not ∘ p) (by simpa using hc)]
  obtain ⟨x, hx⟩ := least_cons s (List.filter (not ∘ p) l)
  exact ⟨x, by rw [hx]; rfl⟩
theorem missing_some {want : Array (String × TypeId)} {got : Array Method} (h : misses want got = true) : ∃ m, missingMethod want got = some m := by
 unfold missingMethod
 have hne : ((want.toList.filter fun (name, sig) => !got.any fun m => m.name == name && m.sig == sig).map (·.1)) ≠ [] := by
  intro e
  simp only [List.map_eq_nil_iff, List.filter_eq_nil_iff] at e
  obtain ⟨x, hx, hm⟩ := List.any_eq_true.1 h
  exact e x hx hm
 generalize ((want.toList.filter fun (name, sig) => !got.any fun m => m.name == name && m.sig == sig).map (·.1)) = l at hne
 cases l with
 |nil => exact absurd rfl hne
 |cons s l =>
  simp only [List.partition_eq_filter_filter]
  exact least_parts _ _ s l
theorem run_assert_iface_no {P : Program} {t a : TypeId} {want : Array (String × TypeId)} {i : TypeInfo} {z : Value} (hu : P.underlying a = some (.interface want)) (hi : P.info? t = some i) (hm : misses want i.methods = true)
  (hz : ∀ W, (zeroValue a).run P W = .ok z W) (v : Value) (x : TypeId) (W : World) : (Instr.typeAssert (.iface t v) x a true).run P W = .ok (.tuple #[z, .bool false]) W := by
 obtain ⟨m, h⟩ := missing_some hm
 simp [Instr.typeAssert, run_underlying hu, typeInfo, hi, h, hz]
theorem info_of {P : Program} {t : TypeId} {f : TypeInfo → Bool} (h : ((P.info? t).map f) = some true) : ∃ i, P.info? t = some i ∧ f i = true := by
 cases hi : P.info? t with
 |none => rw [hi] at h; cases h
 |some i => rw [hi] at h; exact ⟨i, rfl, by simpa using h⟩
theorem misses_marshaler {t : TypeId} (h : ((Tryz.prog.info? t).map fun i => misses #[("MarshalCQL", 130)] i.methods) = some true) (v : Value) (W : World) :
  (Instr.typeAssert (.iface t v) 20 128 true).run Tryz.prog W = .ok (.tuple #[.nilIface, .bool false]) W := by
 obtain ⟨i, hi, hm⟩ := info_of h
 exact run_assert_iface_no (by kernel_rfl) hi hm (fun _ => by kernel_rfl) v 20 W
theorem misses_udt {t : TypeId} (h : ((Tryz.prog.info? t).map fun i => misses #[("MarshalUDT", 188)] i.methods) = some true) (v : Value) (W : World) :
  (Instr.typeAssert (.iface t v) 20 187 true).run Tryz.prog W = .ok (.tuple #[.nilIface, .bool false]) W := by
 obtain ⟨i, hi, hm⟩ := info_of h
 exact run_assert_iface_no (by kernel_rfl) hi hm (fun _ => by kernel_rfl) v 20 W
theorem as_2_128 (v : Value) (W : World) : (Instr.typeAssert (.iface 2 v) 20 128 true).run Tryz.prog W = .ok (.tuple #[.nilIface, .bool false]) W := misses_marshaler (by kernel_rfl) v W
theorem as_4_128 (v : Value) (W : World) : (Instr.typeAssert (.iface 4 v) 20 128 true).run Tryz.prog W = .ok (.tuple #[.nilIface, .bool false]) W := misses_marshaler (by kernel_rfl) v W
theorem as_9_128 (v : Value) (W : World) : (Instr.typeAssert (.iface 9 v) 20 128 true).run Tryz.prog W = .ok (.tuple #[.nilIface, .bool false]) W := misses_marshaler (by kernel_rfl) v W
theorem as_21_128 (v : Value) (W : World) : (Instr.typeAssert (.iface 21 v) 20 128 true).run Tryz.prog W = .ok (.tuple #[.nilIface, .bool false]) W := misses_marshaler (by kernel_rfl) v W
theorem as_26_128 (v : Value) (W : World) : (Instr.typeAssert (.iface 26 v) 20 128 true).run Tryz.prog W = .ok (.tuple #[.nilIface, .bool false]) W := misses_marshaler (by kernel_rfl) v W
theorem as_27_128 (v : Value) (W : World) : (Instr.typeAssert (.iface 27 v) 20 128 true).run Tryz.prog W = .ok (.tuple #[.nilIface, .bool false]) W := misses_marshaler (by kernel_rfl) v W
theorem as_77_128 (v : Value) (W : World) : (Instr.typeAssert (.iface 77 v) 20 128 true).run Tryz.prog W = .ok (.tuple #[.nilIface, .bool false]) W := misses_marshaler (by kernel_rfl) v W
theorem as_106_128 (v : Value) (W : World) : (Instr.typeAssert (.iface 106 v) 20 128 true).run Tryz.prog W = .ok (.tuple #[.nilIface, .bool false]) W := misses_marshaler (by kernel_rfl) v W
theorem as_107_128 (v : Value) (W : World) : (Instr.typeAssert (.iface 107 v) 20 128 true).run Tryz.prog W = .ok (.tuple #[.nilIface, .bool false]) W := misses_marshaler (by kernel_rfl) v W
theorem as_114_128 (v : Value) (W : World) : (Instr.typeAssert (.iface 114 v) 20 128 true).run Tryz.prog W = .ok (.tuple #[.nilIface, .bool false]) W := misses_marshaler (by kernel_rfl) v W
theorem as_116_128 (v : Value) (W : World) : (Instr.typeAssert (.iface 116 v) 20 128 true).run Tryz.prog W = .ok (.tuple #[.nilIface, .bool false]) W := misses_marshaler (by kernel_rfl) v W
theorem as_120_128 (v : Value) (W : World) : (Instr.typeAssert (.iface 120 v) 20 128 true).run Tryz.prog W = .ok (.tuple #[.nilIface, .bool false]) W := misses_marshaler (by kernel_rfl) v W
theorem as_123_128 (v : Value) (W : World) : (Instr.typeAssert (.iface 123 v) 20 128 true).run Tryz.prog W = .ok (.tuple #[.nilIface, .bool false]) W := misses_marshaler (by kernel_rfl) v W
theorem as_125_128 (v : Value) (W : World) : (Instr.typeAssert (.iface 125 v) 20 128 true).run Tryz.prog W = .ok (.tuple #[.nilIface, .bool false]) W := misses_marshaler (by kernel_rfl) v W
theorem as_148_128 (v : Value) (W : World) : (Instr.typeAssert (.iface 148 v) 20 128 true).run Tryz.prog W = .ok (.tuple #[.nilIface, .bool false]) W := misses_marshaler (by kernel_rfl) v W
theorem as_151_128 (v : Value) (W : World) : (Instr.typeAssert (.iface 151 v) 20 128 true).run Tryz.prog W = .ok (.tuple #[.nilIface, .bool false]) W := misses_marshaler (by kernel_rfl) v W
theorem as_152_128 (v : Value) (W : World) : (Instr.typeAssert (.iface 152 v) 20 128 true).run Tryz.prog W = .ok (.tuple #[.nilIface, .bool false]) W := misses_marshaler (by kernel_rfl) v W
theorem as_n_128 (W : World) : (Instr.typeAssert .nilIface 20 128 true).run Tryz.prog W = .ok (.tuple #[.nilIface, .bool false]) W := by kernel_rfl
theorem as_n_154 (W : World) : (Instr.typeAssert .nilIface 20 154 true).run Tryz.prog W = .ok (.tuple #[.agg #[], .bool false]) W := by kernel_rfl
theorem as_n_9 (W : World) : (Instr.typeAssert .nilIface 20 9 true).run Tryz.prog W = .ok (.tuple #[.string ⟨#[]⟩, .bool false]) W := by kernel_rfl
theorem as_n_27 (W : World) : (Instr.typeAssert .nilIface 20 27 true).run Tryz.prog W = .ok (.tuple #[.slice none 0 0, .bool false]) W := by kernel_rfl
theorem as_9_154 (v : Value) (W : World) : (Instr.typeAssert (.iface 9 v) 20 154 true).run Tryz.prog W = .ok (.tuple #[.agg #[], .bool false]) W := by kernel_rfl
theorem as_9_9 (v : Value) (W : World) : (Instr.typeAssert (.iface 9 v) 20 9 true).run Tryz.prog W = .ok (.tuple #[v, .bool true]) W := by kernel_rfl
theorem as_27_154 (v : Value) (W : World) : (Instr.typeAssert (.iface 27 v) 20 154 true).run Tryz.prog W = .ok (.tuple #[.agg #[], .bool false]) W := by kernel_rfl
theorem as_27_9 (v : Value) (W : World) : (Instr.typeAssert (.iface 27 v) 20 9 true).run Tryz.prog W = .ok (.tuple #[.string ⟨#[]⟩, .bool false]) W := by kernel_rfl
theorem as_27_27 (v : Value) (W : World) : (Instr.typeAssert (.iface 27 v) 20 27 true).run Tryz.prog W = .ok (.tuple #[v, .bool true]) W := by kernel_rfl
theorem as_n_4 (W : World) : (Instr.typeAssert .nilIface 20 4 true).run Tryz.prog W = .ok (.tuple #[.bool false, .bool false]) W := by kernel_rfl
theorem as_4_154 (v : Value) (W : World) : (Instr.typeAssert (.iface 4 v) 20 154 true).run Tryz.prog W = .ok (.tuple #[.agg #[], .bool false]) W := by kernel_rfl
theorem as_4_4 (v : Value) (W : World) : (Instr.typeAssert (.iface 4 v) 20 4 true).run Tryz.prog W = .ok (.tuple #[v, .bool true]) W := by kernel_rfl
theorem as_n_106 (W : World) : (Instr.typeAssert .nilIface 20 106 true).run Tryz.prog W = .ok (.tuple #[.int .i8 0, .bool false]) W := by kernel_rfl
theorem as_n_5 (W : World) : (Instr.typeAssert .nilIface 20 5 true).run Tryz.prog W = .ok (.tuple #[.int .u8 0, .bool false]) W := by kernel_rfl
theorem as_n_107 (W : World) : (Instr.typeAssert .nilIface 20 107 true).run Tryz.prog W = .ok (.tuple #[.int .i16 0, .bool false]) W := by kernel_rfl
theorem as_n_158 (W : World) : (Instr.typeAssert .nilIface 20 158 true).run Tryz.prog W = .ok (.tuple #[.int .u16 0, .bool false]) W := by kernel_rfl
theorem as_n_3 (W : World) : (Instr.typeAssert .nilIface 20 3 true).run Tryz.prog W = .ok (.tuple #[.int .i64 0, .bool false]) W := by kernel_rfl
theorem as_n_21 (W : World) : (Instr.typeAssert .nilIface 20 21 true).run Tryz.prog W = .ok (.tuple #[.int .i32 0, .bool false]) W := by kernel_rfl
theorem as_n_2 (W : World) : (Instr.typeAssert .nilIface 20 2 true).run Tryz.prog W = .ok (.tuple #[.int .i64 0, .bool false]) W := by kernel_rfl
theorem as_n_87 (W : World) : (Instr.typeAssert .nilIface 20 87 true).run Tryz.prog W = .ok (.tuple #[.int .u64 0, .bool false]) W := by kernel_rfl
theorem as_n_75 (W : World) : (Instr.typeAssert .nilIface 20 75 true).run Tryz.prog W = .ok (.tuple #[.int .u32 0, .bool false]) W := by kernel_rfl
theorem as_n_73 (W : World) : (Instr.typeAssert .nilIface 20 73 true).run Tryz.prog W = .ok (.tuple #[.int .u64 0, .bool false]) W := by kernel_rfl
theorem as_106_154 (v : Value) (W : World) : (Instr.typeAssert (.iface 106 v) 20 154 true).run Tryz.prog W = .ok (.tuple #[.agg #[], .bool false]) W := by kernel_rfl
theorem as_106_106 (v : Value) (W : World) : (Instr.typeAssert (.iface 106 v) 20 106 true).run Tryz.prog W = .ok (.tuple #[v, .bool true]) W := by kernel_rfl
theorem as_107_154 (v : Value) (W : World) : (Instr.typeAssert (.iface 107 v) 20 154 true).run Tryz.prog W = .ok (.tuple #[.agg #[], .bool false]) W := by kernel_rfl
theorem as_107_107 (v : Value) (W : World) : (Instr.typeAssert (.iface 107 v) 20 107 true).run Tryz.prog W = .ok (.tuple #[v, .bool true]) W := by kernel_rfl
theorem as_21_154 (v : Value) (W : World) : (Instr.typeAssert (.iface 21 v) 20 154 true).run Tryz.prog W = .ok (.tuple #[.agg #[], .bool false]) W := by kernel_rfl
theorem as_21_3 (v : Value) (W : World) : (Instr.typeAssert (.iface 21 v) 20 3 true).run Tryz.prog W = .ok (.tuple #[.int .i64 0, .bool false]) W := by kernel_rfl
theorem as_21_87 (v : Value) (W : World) : (Instr.typeAssert (.iface 21 v) 20 87 true).run Tryz.prog W = .ok (.tuple #[.int .u64 0, .bool false]) W := by kernel_rfl
theorem as_21_2 (v : Value) (W : World) : (Instr.typeAssert (.iface 21 v) 20 2 true).run Tryz.prog W = .ok (.tuple #[.int .i64 0, .bool false]) W := by kernel_rfl
theorem as_21_73 (v : Value) (W : World) : (Instr.typeAssert (.iface 21 v) 20 73 true).run Tryz.prog W = .ok (.tuple #[.int .u64 0, .bool false]) W := by kernel_rfl
theorem as_21_21 (v : Value) (W : World) : (Instr.typeAssert (.iface 21 v) 20 21 true).run Tryz.prog W = .ok (.tuple #[v, .bool true]) W := by kernel_rfl
theorem as_n_114 (W : World) : (Instr.typeAssert .nilIface 20 114 true).run Tryz.prog W = .ok (.tuple #[.agg #[.bool false, .slice none 0 0], .bool false]) W := by kernel_rfl
theorem as_2_154 (v : Value) (W : World) : (Instr.typeAssert (.iface 2 v) 20 154 true).run Tryz.prog W = .ok (.tuple #[.agg #[], .bool false]) W := by kernel_rfl
theorem as_2_3 (v : Value) (W : World) : (Instr.typeAssert (.iface 2 v) 20 3 true).run Tryz.prog W = .ok (.tuple #[.int .i64 0, .bool false]) W := by kernel_rfl
theorem as_2_87 (v : Value) (W : World) : (Instr.typeAssert (.iface 2 v) 20 87 true).run Tryz.prog W = .ok (.tuple #[.int .u64 0, .bool false]) W := by kernel_rfl
theorem as_2_2 (v : Value) (W : World) : (Instr.typeAssert (.iface 2 v) 20 2 true).run Tryz.prog W = .ok (.tuple #[v, .bool true]) W := by kernel_rfl
theorem as_114_154 (v : Value) (W : World) : (Instr.typeAssert (.iface 114 v) 20 154 true).run Tryz.prog W = .ok (.tuple #[.agg #[], .bool false]) W := by kernel_rfl
theorem as_114_3 (v : Value) (W : World) : (Instr.typeAssert (.iface 114 v) 20 3 true).run Tryz.prog W = .ok (.tuple #[.int .i64 0, .bool false]) W := by kernel_rfl
theorem as_114_87 (v : Value) (W : World) : (Instr.typeAssert (.iface 114 v) 20 87 true).run Tryz.prog W = .ok (.tuple #[.int .u64 0, .bool false]) W := by kernel_rfl
theorem as_114_2 (v : Value) (W : World) : (Instr.typeAssert (.iface 114 v) 20 2 true).run Tryz.prog W = .ok (.tuple #[.int .i64 0, .bool false]) W := by kernel_rfl
theorem as_114_73 (v : Value) (W : World) : (Instr.typeAssert (.iface 114 v) 20 73 true).run Tryz.prog W = .ok (.tuple #[.int .u64 0, .bool false]) W := by kernel_rfl
theorem as_114_21 (v : Value) (W : World) : (Instr.typeAssert (.iface 114 v) 20 21 true).run Tryz.prog W = .ok (.tuple #[.int .i32 0, .bool false]) W := by kernel_rfl
theorem as_114_75 (v : Value) (W : World) : (Instr.typeAssert (.iface 114 v) 20 75 true).run Tryz.prog W = .ok (.tuple #[.int .u32 0, .bool false]) W := by kernel_rfl
theorem as_114_107 (v : Value) (W : World) : (Instr.typeAssert (.iface 114 v) 20 107 true).run Tryz.prog W = .ok (.tuple #[.int .i16 0, .bool false]) W := by kernel_rfl
theorem as_114_158 (v : Value) (W : World) : (Instr.typeAssert (.iface 114 v) 20 158 true).run Tryz.prog W = .ok (.tuple #[.int .u16 0, .bool false]) W := by kernel_rfl
theorem as_114_106 (v : Value) (W : World) : (Instr.typeAssert (.iface 114 v) 20 106 true).run Tryz.prog W = .ok (.tuple #[.int .i8 0, .bool false]) W := by kernel_rfl
theorem as_114_5 (v : Value) (W : World) : (Instr.typeAssert (.iface 114 v) 20 5 true).run Tryz.prog W = .ok (.tuple #[.int .u8 0, .bool false]) W := by kernel_rfl
theorem as_114_114 (v : Value) (W : World) : (Instr.typeAssert (.iface 114 v) 20 114 true).run Tryz.prog W = .ok (.tuple #[v, .bool true]) W := by kernel_rfl
theorem as_n_77 (W : World) : (Instr.typeAssert .nilIface 20 77 true).run Tryz.prog W = .ok (.tuple #[.float .f32 0, .bool false]) W := by kernel_rfl
theorem as_77_154 (v : Value) (W : World) : (Instr.typeAssert (.iface 77 v) 20 154 true).run Tryz.prog W = .ok (.tuple #[.agg #[], .bool false]) W := by kernel_rfl
theorem as_77_77 (v : Value) (W : World) : (Instr.typeAssert (.iface 77 v) 20 77 true).run Tryz.prog W = .ok (.tuple #[v, .bool true]) W := by kernel_rfl
theorem as_n_26 (W : World) : (Instr.typeAssert .nilIface 20 26 true).run Tryz.prog W = .ok (.tuple #[.float .f64 0, .bool false]) W := by kernel_rfl
theorem as_26_154 (v : Value) (W : World) : (Instr.typeAssert (.iface 26 v) 20 154 true).run Tryz.prog W = .ok (.tuple #[.agg #[], .bool false]) W := by kernel_rfl
theorem as_26_26 (v : Value) (W : World) : (Instr.typeAssert (.iface 26 v) 20 26 true).run Tryz.prog W = .ok (.tuple #[v, .bool true]) W := by kernel_rfl
theorem as_n_116 (W : World) : (Instr.typeAssert .nilIface 20 116 true).run Tryz.prog W = .ok (.tuple #[.agg #[.bool false, .slice none 0 0, .int .i32 0], .bool false]) W := by kernel_rfl
theorem as_116_154 (v : Value) (W : World) : (Instr.typeAssert (.iface 116 v) 20 154 true).run Tryz.prog W = .ok (.tuple #[.agg #[], .bool false]) W := by kernel_rfl
theorem as_116_116 (v : Value) (W : World) : (Instr.typeAssert (.iface 116 v) 20 116 true).run Tryz.prog W = .ok (.tuple #[v, .bool true]) W := by kernel_rfl
theorem as_n_166 (W : World) : (Instr.typeAssert .nilIface 20 166 true).run Tryz.prog W = .ok (.tuple #[.int .i64 0, .bool false]) W := by kernel_rfl
theorem as_n_170 (W : World) : (Instr.typeAssert .nilIface 20 170 true).run Tryz.prog W = .ok (.tuple #[.agg #[.int .u64 0, .int .i64 0, .pointer none], .bool false]) W := by kernel_rfl
theorem as_n_151 (W : World) : (Instr.typeAssert .nilIface 20 151 true).run Tryz.prog W = .ok (.tuple #[.slice none 0 0, .bool false]) W := by kernel_rfl
theorem as_151_154 (v : Value) (W : World) : (Instr.typeAssert (.iface 151 v) 20 154 true).run Tryz.prog W = .ok (.tuple #[.agg #[], .bool false]) W := by kernel_rfl
theorem as_151_151 (v : Value) (W : World) : (Instr.typeAssert (.iface 151 v) 20 151 true).run Tryz.prog W = .ok (.tuple #[v, .bool true]) W := by kernel_rfl
theorem as_n_148 (W : World) : (Instr.typeAssert .nilIface 20 148 true).run Tryz.prog W = .ok (.tuple #[.slice none 0 0, .bool false]) W := by kernel_rfl
theorem as_148_154 (v : Value) (W : World) : (Instr.typeAssert (.iface 148 v) 20 154 true).run Tryz.prog W = .ok (.tuple #[.agg #[], .bool false]) W := by kernel_rfl
theorem as_148_148 (v : Value) (W : World) : (Instr.typeAssert (.iface 148 v) 20 148 true).run Tryz.prog W = .ok (.tuple #[v, .bool true]) W := by kernel_rfl
theorem as_n_120 (W : World) : (Instr.typeAssert .nilIface 20 120 true).run Tryz.prog W = .ok (.tuple #[.agg #[.int .u8 0, .int .u8 0, .int .u8 0, .int .u8 0, .int .u8 0, .int .u8 0, .int .u8 0, .int .u8 0, .int .u8 0, .int .u8 0, .int .u8 0, .int .u8 0, .int .u8 0, .int .u8 0, .int .u8 0, .int .u8 0], .bool false]) W := by kernel_rfl
theorem as_n_119 (W : World) : (Instr.typeAssert .nilIface 20 119 true).run Tryz.prog W = .ok (.tuple #[.agg #[.int .u8 0, .int .u8 0, .int .u8 0, .int .u8 0, .int .u8 0, .int .u8 0, .int .u8 0, .int .u8 0, .int .u8 0, .int .u8 0, .int .u8 0, .int .u8 0, .int .u8 0, .int .u8 0, .int .u8 0, .int .u8 0], .bool false]) W := by kernel_rfl
theorem as_120_154 (v : Value) (W : World) : (Instr.typeAssert (.iface 120 v) 20 154 true).run Tryz.prog W = .ok (.tuple #[.agg #[], .bool false]) W := by kernel_rfl
theorem as_120_120 (v : Value) (W : World) : (Instr.typeAssert (.iface 120 v) 20 120 true).run Tryz.prog W = .ok (.tuple #[v, .bool true]) W := by kernel_rfl
theorem as_n_123 (W : World) : (Instr.typeAssert .nilIface 20 123 true).run Tryz.prog W = .ok (.tuple #[.slice none 0 0, .bool false]) W := by kernel_rfl
theorem as_123_154 (v : Value) (W : World) : (Instr.typeAssert (.iface 123 v) 20 154 true).run Tryz.prog W = .ok (.tuple #[.agg #[], .bool false]) W := by kernel_rfl
theorem as_123_123 (v : Value) (W : World) : (Instr.typeAssert (.iface 123 v) 20 123 true).run Tryz.prog W = .ok (.tuple #[v, .bool true]) W := by kernel_rfl
theorem as_n_187 (W : World) : (Instr.typeAssert .nilIface 20 187 true).run Tryz.prog W = .ok (.tuple #[.nilIface, .bool false]) W := by kernel_rfl
theorem as_n_152 (W : World) : (Instr.typeAssert .nilIface 20 152 true).run Tryz.prog W = .ok (.tuple #[.map none, .bool false]) W := by kernel_rfl
theorem as_152_154 (v : Value) (W : World) : (Instr.typeAssert (.iface 152 v) 20 154 true).run Tryz.prog W = .ok (.tuple #[.agg #[], .bool false]) W := by kernel_rfl
theorem as_152_187 (v : Value) (W : World) : (Instr.typeAssert (.iface 152 v) 20 187 true).run Tryz.prog W = .ok (.tuple #[.nilIface, .bool false]) W := misses_udt (by kernel_rfl) v W
theorem as_152_152 (v : Value) (W : World) : (Instr.typeAssert (.iface 152 v) 20 152 true).run Tryz.prog W = .ok (.tuple #[v, .bool true]) W := by kernel_rfl
theorem as_n_190 (W : World) : (Instr.typeAssert .nilIface 20 190 true).run Tryz.prog W = .ok (.tuple #[.pointer none, .bool false]) W := by kernel_rfl
theorem as_n_125 (W : World) : (Instr.typeAssert .nilIface 20 125 true).run Tryz.prog W = .ok (.tuple #[.agg #[.int .i32 0, .int .i32 0, .int .i64 0], .bool false]) W := by kernel_rfl
theorem as_125_154 (v : Value) (W : World) : (Instr.typeAssert (.iface 125 v) 20 154 true).run Tryz.prog W = .ok (.tuple #[.agg #[], .bool false]) W := by kernel_rfl
theorem as_125_2 (v : Value) (W : World) : (Instr.typeAssert (.iface 125 v) 20 2 true).run Tryz.prog W = .ok (.tuple #[.int .i64 0, .bool false]) W := by kernel_rfl
theorem as_125_166 (v : Value) (W : World) : (Instr.typeAssert (.iface 125 v) 20 166 true).run Tryz.prog W = .ok (.tuple #[.int .i64 0, .bool false]) W := by kernel_rfl
theorem as_125_9 (v : Value) (W : World) : (Instr.typeAssert (.iface 125 v) 20 9 true).run Tryz.prog W = .ok (.tuple #[.string ⟨#[]⟩, .bool false]) W := by kernel_rfl
theorem as_125_125 (v : Value) (W : World) : (Instr.typeAssert (.iface 125 v) 20 125 true).run Tryz.prog W = .ok (.tuple #[v, .bool true]) W := by kernel_rfl
theorem as_i98 (v : Value) (W : World) : (Instr.typeAssert (.iface 98 v) 60 98 true).run Tryz.prog W = .ok (.tuple #[v, .bool true]) W := by kernel_rfl
theorem as_i100 (v : Value) (W : World) : (Instr.typeAssert (.iface 100 v) 60 100 false).run Tryz.prog W = .ok (v) W := by kernel_rfl
theorem as_i103 (v : Value) (W : World) : (Instr.typeAssert (.iface 103 v) 60 103 false).run Tryz.prog W = .ok (v) W := by kernel_rfl
theorem me_94_Version (c0 c1 c2 : Value) (W : World) : (method 461 94 (.agg #[c0, c1, c2]) "Version").run Tryz.prog W = .ok (261, .agg #[c0, c1, c2]) W := by kernel_rfl
theorem me_94_Type (c0 c1 c2 : Value) (W : World) : (method 461 94 (.agg #[c0, c1, c2]) "Type").run Tryz.prog W = .ok (260, .agg #[c0, c1, c2]) W := by kernel_rfl
theorem me_94_Custom (c0 c1 c2 : Value) (W : World) : (method 461 94 (.agg #[c0, c1, c2]) "Custom").run Tryz.prog W = .ok (259, .agg #[c0, c1, c2]) W := by kernel_rfl
theorem me_98_Version (c0 c1 c2 c3 c4 : Value) (W : World) : (method 461 98 (.agg #[c0, c1, c2, c3, c4]) "Version").run Tryz.prog W = .ok (261, .agg #[c0, c1, c2]) W := by kernel_rfl
theorem me_98_Type (c0 c1 c2 c3 c4 : Value) (W : World) : (method 461 98 (.agg #[c0, c1, c2, c3, c4]) "Type").run Tryz.prog W = .ok (260, .agg #[c0, c1, c2]) W := by kernel_rfl
theorem me_98_Custom (c0 c1 c2 c3 c4 : Value) (W : World) : (method 461 98 (.agg #[c0, c1, c2, c3, c4]) "Custom").run Tryz.prog W = .ok (259, .agg #[c0, c1, c2]) W := by kernel_rfl
theorem me_100_Version (c0 c1 c2 c3 : Value) (W : World) : (method 461 100 (.agg #[c0, c1, c2, c3]) "Version").run Tryz.prog W = .ok (261, .agg #[c0, c1, c2]) W := by kernel_rfl
theorem me_100_Type (c0 c1 c2 c3 : Value) (W : World) : (method 461 100 (.agg #[c0, c1, c2, c3]) "Type").run Tryz.prog W = .ok (260, .agg #[c0, c1, c2]) W := by kernel_rfl
theorem me_100_Custom (c0 c1 c2 c3 : Value) (W : World) : (method 461 100 (.agg #[c0, c1, c2, c3]) "Custom").run Tryz.prog W = .ok (259, .agg #[c0, c1, c2]) W := by kernel_rfl
theorem me_103_Version (c0 c1 c2 c3 c4 c5 : Value) (W : World) : (method 461 103 (.agg #[c0, c1, c2, c3, c4, c5]) "Version").run Tryz.prog W = .ok (261, .agg #[c0, c1, c2]) W := by kernel_rfl
theorem me_103_Type (c0 c1 c2 c3 c4 c5 : Value) (W : World) : (method 461 103 (.agg #[c0, c1, c2, c3, c4, c5]) "Type").run Tryz.prog W = .ok (260, .agg #[c0, c1, c2]) W := by kernel_rfl
theorem me_103_Custom (c0 c1 c2 c3 c4 c5 : Value) (W : World) : (method 461 103 (.agg #[c0, c1, c2, c3, c4, c5]) "Custom").run Tryz.prog W = .ok (259, .agg #[c0, c1, c2]) W := by kernel_rfl
attribute [go_sem] as_2_128 as_4_128 as_9_128 as_21_128 as_26_128 as_27_128 as_77_128 as_106_128 as_107_128 as_114_128 as_116_128 as_120_128
attribute [go_sem] as_123_128 as_125_128 as_148_128 as_151_128 as_152_128 as_n_128 as_n_154 as_n_9 as_n_27 as_9_154 as_9_9 as_27_154
attribute [go_sem] as_27_9 as_27_27 as_n_4 as_4_154 as_4_4 as_n_106 as_n_5 as_n_107 as_n_158 as_n_3 as_n_21 as_n_2
attribute [go_sem] as_n_87 as_n_75 as_n_73 as_106_154 as_106_106 as_107_154 as_107_107 as_21_154 as_21_3 as_21_87 as_21_2 as_21_73
attribute [go_sem] as_21_21 as_n_114 as_2_154 as_2_3 as_2_87 as_2_2 as_114_154 as_114_3 as_114_87 as_114_2 as_114_73 as_114_21
attribute [go_sem] as_114_75 as_114_107 as_114_158 as_114_106 as_114_5 as_114_114 as_n_77 as_77_154 as_77_77 as_n_26 as_26_154 as_26_26
attribute [go_sem] as_n_116 as_116_154 as_116_116 as_n_166 as_n_170 as_n_151 as_151_154 as_151_151 as_n_148 as_148_154 as_148_148 as_n_120
attribute [go_sem] as_n_119 as_120_154 as_120_120 as_n_123 as_123_154 as_123_123 as_n_187 as_n_152 as_152_154 as_152_187 as_152_152 as_n_190
attribute [go_sem] as_n_125 as_125_154 as_125_2 as_125_166 as_125_9 as_125_125 as_i98 as_i100 as_i103 me_94_Version me_94_Type me_94_Custom
attribute [go_sem] me_98_Version me_98_Type me_98_Custom me_100_Version me_100_Type me_100_Custom me_103_Version me_103_Type me_103_Custom
end Go.Proofs.YtammjbmfiakbnaaGreatDoor
