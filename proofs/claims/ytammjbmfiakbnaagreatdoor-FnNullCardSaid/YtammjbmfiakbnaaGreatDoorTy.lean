/-
  Types as they lie in memory; what it says of a type that it is known; a type's copy that is cut off. No conditions.
-/
import Derived.Test.YtammjbmfiakbnaaGreatDoorMem
namespace Go.Proofs.YtammjbmfiakbnaaGreatDoor
open Go.RowKit

/-- A type: its kind, the types that it holds, the names of its fields. -/
inductive Ty where
  | mk (kind : Int) (kids : List Ty) (names : List ByteArray)
def Ty.kind : Ty → Int | .mk k _ _ => k
def Ty.kids : Ty → List Ty | .mk _ k _ => k
def Ty.names : Ty → List ByteArray | .mk _ _ n => n
@[simp] theorem Ty.kind_mk (k : Int) (ks : List Ty) (ns : List ByteArray) : (Ty.mk k ks ns).kind = k := rfl
@[simp] theorem Ty.kids_mk (k : Int) (ks : List Ty) (ns : List ByteArray) : (Ty.mk k ks ns).kids = ks := rfl
@[simp] theorem Ty.names_mk (k : Int) (ks : List Ty) (ns : List ByteArray) : (Ty.mk k ks ns).names = ns := rfl
/-- No type. -/
def Ty.bad : Ty := .mk 0 [] []

/-- Only block R, and new ones, may differ. -/
def One (w w' : World) (R : Nat) : Prop :=
  w'.os = w.os ∧ w'.tape = w.tape ∧ w'.output = w.output ∧ w.heap.size ≤ w'.heap.size ∧ ∀ k, k < w.heap.size → k ≠ R → w'.heap[k]? = w.heap[k]?
theorem One.refl (w : World) (R : Nat) : One w w R := ⟨rfl, rfl, rfl, Nat.le_refl _, fun _ _ _ => rfl⟩
theorem One.of_ext {w w' : World} (h : Ext w w') (R : Nat) : One w w' R := ⟨h.os, h.tape, h.output, h.size, fun k hk _ => h.block k hk⟩
theorem One.trans {a b c : World} {R : Nat} (h : One a b R) (k : One b c R) : One a c R :=
  ⟨k.1.trans h.1, k.2.1.trans h.2.1, k.2.2.1.trans h.2.2.1, Nat.le_trans h.2.2.2.1 k.2.2.2.1, fun i hi hr => (k.2.2.2.2 i (Nat.lt_of_lt_of_le hi h.2.2.2.1) hr).trans (h.2.2.2.2 i hi hr)⟩
theorem One.alloc {w w' : World} {R : Nat} (h : One w w' R) (o : Obj) : One w (w'.alloc o) R := h.trans (One.of_ext ((Ext.refl w').alloc o) R)
theorem One.drew {w w' : World} {R : Nat} (h : One w w' R) : One w w'.drew R := h
theorem One.drewN {w w' : World} {R : Nat} (h : One w w' R) (n : Nat) : One w (w'.drewN n) R := h
theorem One.set {w w' : World} {R : Nat} (h : One w w' R) {p : Addr} (hp : p.block = R ∨ w.heap.size ≤ p.block) (u : Value) : One w (w'.setCell p u) R :=
  ⟨h.1, h.2.1, h.2.2.1, by simpa [World.setCell] using h.2.2.2.1, fun k hk hr => (Below.heap_setCell w' p u k (by rcases hp with hp | hp <;> omega)).trans (h.2.2.2.2 k hk hr)⟩
theorem One.blk {w w' : World} {R g : Nat} {t : TypeId} {cs : Array Value} (h : One w w' R) (hb : Blk w g t cs) (hr : g ≠ R) : Blk w' g t cs := (h.2.2.2.2 g hb.lt hr).trans hb
theorem One.cell {w w' : World} {R b o : Nat} (h : One w w' R) (hb : b < w.heap.size) (hr : b ≠ R) : w'.cell? ⟨b, o, none⟩ = w.cell? ⟨b, o, none⟩ :=
  World.cell?_of_block (a := ⟨b, o, none⟩) (h.2.2.2.2 b hb hr)

/-- Only blocks of a set, and new ones, may differ. -/
def Onx (X : Nat → Prop) (w w' : World) : Prop := w.heap.size ≤ w'.heap.size ∧ ∀ k, k < w.heap.size → ¬ X k → w'.heap[k]? = w.heap[k]?
theorem One.onx {w w' : World} {R : Nat} (h : One w w' R) {X : Nat → Prop} (hX : X R) : Onx X w w' := ⟨h.2.2.2.1, fun k hk hx => h.2.2.2.2 k hk (by rintro rfl; exact hx hX)⟩
theorem Onx.of_ext {w w' : World} (h : Ext w w') (X : Nat → Prop) : Onx X w w' := ⟨h.size, fun k hk _ => h.block k hk⟩
theorem Onx.trans {X : Nat → Prop} {a b c : World} (h : Onx X a b) (k : Onx X b c) : Onx X a c :=
  ⟨Nat.le_trans h.1 k.1, fun i hi hx => (k.2 i (Nat.lt_of_lt_of_le hi h.1) hx).trans (h.2 i hi hx)⟩
theorem Onx.set {X : Nat → Prop} {w w' : World} (h : Onx X w w') {p : Addr} (hp : X p.block ∨ w.heap.size ≤ p.block) (u : Value) : Onx X w (w'.setCell p u) :=
  ⟨by simpa [World.setCell] using h.1, fun k hk hx => (Below.heap_setCell w' p u k (hp.elim (fun hp e => hx (e ▸ hp)) (fun hp e => by omega))).trans (h.2 k hk hx)⟩
theorem Onx.grown {X : Nat → Prop} {w w' w2 : World} (h : Onx X w w') {row : Option Nat} (hg : w'.grownBy w2 row) (hr : ∀ k, row = some k → X k ∨ w.heap.size ≤ k) : Onx X w w2 :=
  ⟨Nat.le_trans h.1 hg.size, fun k hk hx => (hg.block k (Nat.lt_of_lt_of_le hk h.1) (fun e => (hr k e.symm).elim (fun h => hx h) (fun h => by omega))).trans (h.2 k hk hx)⟩

/-- A row of cells outside of a set of blocks. -/
def SegR (X : Nat → Prop) (w : World) (A : Option Addr) (xs : List Value) : Prop :=
  xs ≠ [] → ∃ b o, A = some ⟨b, o, none⟩ ∧ b < w.heap.size ∧ ¬ X b ∧ ∀ j u, xs[j]? = some u → w.cell? ⟨b, o + j, none⟩ = some u
theorem SegR.onx {X : Nat → Prop} {w w' : World} {A : Option Addr} {xs : List Value} (h : SegR X w A xs) (ho : Onx X w w') : SegR X w' A xs := fun hn => by
  obtain ⟨b, o, e, hb, hr, hc⟩ := h hn
  exact ⟨b, o, e, Nat.lt_of_lt_of_le hb ho.1, hr, fun j u hu => (World.cell?_of_block (a := ⟨b, o + j, none⟩) (ho.2 b hb hr)).trans (hc j u hu)⟩
theorem SegR.weak {X X' : Nat → Prop} {w : World} {A : Option Addr} {xs : List Value} (h : SegR X w A xs) (hx : ∀ b, X' b → X b ∨ w.heap.size ≤ b) : SegR X' w A xs := fun hn => by
  obtain ⟨b, o, e, hb, hr, hc⟩ := h hn
  exact ⟨b, o, e, hb, fun h' => (hx b h').elim (fun h' => hr h') (fun h' => by omega), hc⟩
theorem SegR.nil (X : Nat → Prop) (w : World) (A : Option Addr) : SegR X w A [] := fun h => absurd rfl h

/-- A value reads as a type, outside of a set of blocks. -/
def TyAt (X : Nat → Prop) : Nat → World → Value → Ty → Prop
  | 0, _, _, _ => False
  | n + 1, w, v, T => ∃ A c A' c' cs, v = .agg #[.int .i64 T.kind, .slice A T.kids.length c, .slice A' T.names.length c'] ∧ T.kids.length ≤ c ∧ c ≤ maxLen ∧ T.names.length ≤ c' ∧ c' ≤ maxLen ∧ (∀ s ∈ T.names, s.size ≤ maxLen) ∧
      SegR X w A' (T.names.map Value.string) ∧ cs.length = T.kids.length * 3 ∧ SegR X w A cs ∧
      ∀ (i : Nat) (t : Ty), T.kids[i]? = some t → ∃ a b d, cs[i * 3]? = some a ∧ cs[i * 3 + 1]? = some b ∧ cs[i * 3 + 2]? = some d ∧ TyAt X n w (.agg #[a, b, d]) t
theorem TyAt.onx {X : Nat → Prop} {w w' : World} (ho : Onx X w w') : ∀ (n : Nat) (v : Value) (T : Ty), TyAt X n w v T → TyAt X n w' v T
  | 0, _, _, h => h
  | n + 1, v, T, h => by
    obtain ⟨A, c, A', c', cs, hv, h1, h2, h3, h4, hs, h5, h6, h7, h8⟩ := h
    refine ⟨A, c, A', c', cs, hv, h1, h2, h3, h4, hs, h5.onx ho, h6, h7.onx ho, fun i t ht => ?_⟩
    obtain ⟨a, b, d, ha, hb, hd, hk⟩ := h8 i t ht
    exact ⟨a, b, d, ha, hb, hd, TyAt.onx ho n _ t hk⟩
theorem TyAt.weak {X X' : Nat → Prop} {w : World} (hx : ∀ b, X' b → X b ∨ w.heap.size ≤ b) : ∀ (n : Nat) (v : Value) (T : Ty), TyAt X n w v T → TyAt X' n w v T
  | 0, _, _, h => h
  | n + 1, v, T, h => by
    obtain ⟨A, c, A', c', cs, hv, h1, h2, h3, h4, hs, h5, h6, h7, h8⟩ := h
    refine ⟨A, c, A', c', cs, hv, h1, h2, h3, h4, hs, h5.weak hx, h6, h7.weak hx, fun i t ht => ?_⟩
    obtain ⟨a, b, d, ha, hb, hd, hk⟩ := h8 i t ht
    exact ⟨a, b, d, ha, hb, hd, TyAt.weak hx n _ t hk⟩
theorem TyAt.form {X : Nat → Prop} {n : Nat} {w : World} {v : Value} {T : Ty} (h : TyAt X n w v T) : ∃ A c A' c', v = .agg #[.int .i64 T.kind, .slice A T.kids.length c, .slice A' T.names.length c'] := by
  cases n with
  | zero => exact h.elim
  | succ n =>
    obtain ⟨A, c, A', c', cs, hv, _⟩ := h
    exact ⟨A, c, A', c', hv⟩
theorem TyAt.form3 {X : Nat → Prop} {n : Nat} {w : World} {a b d : Value} {T : Ty} (h : TyAt X n w (.agg #[a, b, d]) T) : ∃ A c A' c', a = .int .i64 T.kind ∧ b = .slice A T.kids.length c ∧ d = .slice A' T.names.length c' := by
  obtain ⟨A, c, A', c', hv⟩ := h.form
  simp only [Value.agg.injEq, Array.mk.injEq, List.cons.injEq, and_true] at hv
  exact ⟨A, c, A', c', hv.1, hv.2.1, hv.2.2⟩
theorem TyAt.bad (X : Nat → Prop) (n : Nat) (w : World) : TyAt X (n + 1) w (.agg #[.int .i64 0, .slice none 0 0, .slice none 0 0]) Ty.bad :=
  ⟨none, 0, none, 0, [], rfl, Nat.le_refl _, Nat.zero_le _, Nat.le_refl _, Nat.zero_le _, fun _ h => by simp [Ty.bad] at h, SegR.nil _ _ _, rfl, SegR.nil _ _ _, fun i t ht => by simp [Ty.bad] at ht⟩

/-- The numbers of a known type: its kind, how many it holds. -/
def Shape (T : Ty) : Prop :=
  ((T.kind = 32 ∨ T.kind = 34) ∧ T.kids.length = 1 ∧ T.names = []) ∨ (T.kind = 33 ∧ T.kids.length = 2 ∧ T.names = []) ∨ (T.kind = 49 ∧ 1 ≤ T.kids.length ∧ T.kids.length ≤ 10 ∧ T.names = []) ∨
    (T.kind = 48 ∧ 1 ≤ T.kids.length ∧ T.kids.length ≤ 10 ∧ T.names.length = T.kids.length ∧ T.names.Nodup) ∨ (1 ≤ T.kind ∧ T.kind ≤ 21 ∧ T.kind ≠ 10 ∧ T.kids = [] ∧ T.names = [])
/-- A known type, so deep at the most. -/
def Good : Nat → Ty → Prop
  | 0, _ => False
  | n + 1, T => (∀ k ∈ T.kids, Good n k) ∧ Shape T

/-- A copy, of which parts may be cut off. -/
inductive Cut : Ty → Ty → Prop
  | bad (T : Ty) : Cut Ty.bad T
  | node (k : Int) (ks ks' : List Ty) (ns : List ByteArray) (hl : ks'.length = ks.length) (h : ∀ (i : Nat) (a b : Ty), ks'[i]? = some a → ks[i]? = some b → Cut a b) : Cut (.mk k ks' ns) (.mk k ks ns)
/-- A copy that is known is whole. -/
theorem cut_good : ∀ (n : Nat) (T' T : Ty), Good n T' → Cut T' T → T' = T
  | 0, _, _, h, _ => h.elim
  | n + 1, T', T, h, hc => by
    cases hc with
    | bad T =>
      obtain ⟨_, hs⟩ := h
      simp [Shape, Ty.bad] at hs
    | node k ks ks' ns hl hk =>
      congr 1
      refine List.ext_getElem hl fun i h1 h2 => ?_
      have e1 : ks'[i]? = some ks'[i] := List.getElem?_eq_getElem h1
      have e2 : ks[i]? = some ks[i] := List.getElem?_eq_getElem h2
      exact cut_good n _ _ (h.1 _ (List.getElem_mem h1)) (hk i _ _ e1 e2)
end Go.Proofs.YtammjbmfiakbnaaGreatDoor
