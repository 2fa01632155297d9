/- A part of the proof that the card of laws.FnMarshal holds. No conditions. -/
import Derived.Test.YtammjbmfiakbnaaGreatDoorM02
import Derived.Test.YtammjbmfiakbnaaGreatDoorM00
import Derived.Outline
import Derived.Deep.DrawnRows
import Derived.Deep.AppendLies
import Derived.Deep.Cut
import Derived.Lib.Hide
import Derived.IntWalk
set_option linter.unusedSimpArgs false
set_option linter.unusedVariables false
namespace Go.Proofs.YtammjbmfiakbnaaGreatDoor
open Go.RowKit
theorem info39 : (Tryz.prog.info? 39).map (fun i => (i.zero, i.size, i.bytes)) = some (some (.agg #[.bool false, .int .i64 0, .float .f64 0, .string ⟨#[]⟩, .slice none 0 0, .int .i64 0, .int .i64 0, .int .i64 0, .int .i64 0, .slice none 0 0, .slice none 0 0]), 11, 144) := by kernel_rfl
/-- A relation moves on, where only a set of blocks has changed. -/
theorem Rel.move {R : (Nat → Prop) → World → Prop} (hR : Rel R) {S S' : Nat → Prop} {w2 w4 : World} {gg : Nat} (h : R S w2) (ho : Onx S w2 w4) (hs : ∀ b, S' b → S b ∨ b = gg) (hg : S gg ∨ w2.heap.size ≤ gg) : R S' w4 := by
 have h1 := hR.weak _ (fun b => S b ∨ b = gg) w2 (fun b hb => by
  rcases hb with hb | rfl
  ·exact .inl hb
  ·exact hg) h
 have h2 := hR.onx _ w2 w4 ⟨ho.1, fun k hk hx => ho.2 k hk (fun h => hx (.inl h))⟩ h1
 exact hR.weak _ _ w4 (fun b hb => .inl (hs b hb)) h2
/-- The blocks that a copy's parts lie outside of: those given, the two rows', the copy's own. -/
def XX2 (X : Nat → Prop) (n0 : Nat) (kv1 kv2 : Value) (b : Nat) : Prop := X b ∨ kv1.ownBlock = some b ∨ kv2.ownBlock = some b ∨ b = n0 + 1 ∨ b = n0 + 2
/-- A value, cut off so deep. -/
def cutAt : Nat → Vl → Vl
 |0, _ => Vl.bad
 |d + 1, V => .mk V.sc (V.keys.map (cutAt d)) (V.kids.map (cutAt d))
/-- One of the two rows that among makes. -/
structure AHalf (S : Nat → Prop) (d n0 : Nat) (full : List Vl) (wr : World) (i : Nat) (ks : List Vl) (kv : Value) (cs : List Value) (cc : Prop) : Prop where
 own : wr.ownsRow (n0 + 3) 39 11 kv i cs
 len : ks.length = i
 kids : ∀ (j : Nat) (t : Vl), ks[j]? = some t → VlAt S d wr ((cs.drop (j * 11)).take 11) t
 cut : cc → ∀ (j : Nat) (a b : Vl), ks[j]? = some a → full[j]? = some b → a = cutAt (d - 1) b
/-- What among's loops keep. -/
structure ACore (X : Nat → Prop) (R d n0 : Nat) (f1 f2 : List Vl) (w wr : World) (r : Int) (i1 : Nat) (r1 : Int) (ks1 : List Vl) (kv1 : Value) (cs1 : List Value) (i2 : Nat) (ks2 : List Vl) (kv2 : Value) (cs2 : List Value) : Prop where
 room : -281474976710656 ≤ r1 ∧ (i1 : Int) + i2 + r1 ≤ r - 1
 blk : Blk wr R 3 #[.int .i64 r1]
 one : One w wr R
 out : Blk wr (n0 + 1) 39 #[.bool false, .int .i64 0, .float .f64 0, .string ⟨#[]⟩, .slice none 0 0, .int .i64 0, .int .i64 0, .int .i64 0, .int .i64 0, .slice none 0 0, .slice none 0 0]
 sz : n0 + 3 ≤ wr.heap.size
 h1 : AHalf (XX2 X n0 kv1 kv2) d n0 f1 wr i1 ks1 kv1 cs1 (0 ≤ r1)
 h2 : AHalf (XX2 X n0 kv1 kv2) d n0 f2 wr i2 ks2 kv2 cs2 (0 ≤ r1)
 apart : ∀ k, kv1.ownBlock = some k → kv2.ownBlock ≠ some k
theorem XX2.swap {X : Nat → Prop} {n0 : Nat} {kv1 kv2 : Value} : XX2 X n0 kv1 kv2 = XX2 X n0 kv2 kv1 := by
 funext b
 apply propext
 unfold XX2
 constructor
 ·rintro (h | h | h | h)
  ·exact .inl h
  ·exact .inr (.inr (.inl h))
  ·exact .inr (.inl h)
  ·exact .inr (.inr (.inr h))
 ·rintro (h | h | h | h)
  ·exact .inl h
  ·exact .inr (.inr (.inl h))
  ·exact .inr (.inl h)
  ·exact .inr (.inr (.inr h))
theorem ACore.swap {X : Nat → Prop} {R d n0 : Nat} {f1 f2 : List Vl} {w wr : World} {r : Int} {i1 : Nat} {r1 : Int} {ks1 : List Vl} {kv1 : Value} {cs1 : List Value} {i2 : Nat} {ks2 : List Vl} {kv2 : Value} {cs2 : List Value}
  (L : ACore X R d n0 f1 f2 w wr r i1 r1 ks1 kv1 cs1 i2 ks2 kv2 cs2) : ACore X R d n0 f2 f1 w wr r i2 r1 ks2 kv2 cs2 i1 ks1 kv1 cs1 :=
 ⟨⟨L.room.1, by have := L.room.2; omega⟩, L.blk, L.one, L.out, L.sz, XX2.swap ▸ L.h2, XX2.swap ▸ L.h1, fun k h1 h2 => L.apart k h2 h1⟩
theorem take_left {cs c : List Value} {i j : Nat} (hl : cs.length = i * 11) (hj : j < i) : ((cs ++ c).drop (j * 11)).take 11 = (cs.drop (j * 11)).take 11 := by
 refine List.ext_getElem? fun k => ?_
 rw [List.getElem?_take, List.getElem?_take]
 split
 ·rw [List.getElem?_drop, List.getElem?_drop, List.getElem?_append_left (by omega)]
 ·rfl
theorem take_right {cs c : List Value} {i : Nat} (hl : cs.length = i * 11) (hc : c.length = 11) : ((cs ++ c).drop (i * 11)).take 11 = c := by
 rw [← hl, List.drop_left, ← hc, List.take_length]
/-- One round. -/
theorem acore_step {X : Nat → Prop} {R d n0 : Nat} {f1 f2 : List Vl} {w wr W1 w2 w3 : World} {r : Int} {i1 : Nat} {r1 r2 : Int} {ks1 : List Vl} {kv1 : Value} {cs1 : List Value} {i2 : Nat} {ks2 : List Vl} {kv2 : Value} {cs2 : List Value}
  {kt T2 : Vl} {c11 : List Value} {gg cap off : Nat} {ob : Obj} {u : Value} (hn0 : n0 = w.heap.size) (hXR : X R) (hXb : ∀ b, X b → b < w.heap.size)
  (L : ACore X R d n0 f1 f2 w wr r i1 r1 ks1 kv1 cs1 i2 ks2 kv2 cs2) (hi : f1[i1]? = some kt) (hE1 : Ext wr W1) (ho2 : One W1 w2 R) (hR2 : Blk w2 R 3 #[.int .i64 r2]) (hr2 : -281474976710656 ≤ r2 ∧ r2 < r1)
  (ht2 : VlAt (XX2 X n0 kv1 kv2) d w2 c11 T2) (hl11 : c11.length = 11) (hc2 : 0 ≤ r2 → T2 = cutAt (d - 1) kt)
  (hown : w3.ownsRow (n0 + 3) 39 11 (.slice (some ⟨gg, 0, none⟩) (i1 + 1) cap) (i1 + 1) (cs1 ++ c11)) (hgrow : (w2.alloc ob).grownBy w3 kv1.ownBlock) (hat : kv1.ownBlock = some gg ∨ gg = w2.heap.size + 1) :
  ACore X R d n0 f1 f2 w (w3.setCell ⟨n0 + 2, off, none⟩ u) r (i1 + 1) r2 (ks1 ++ [T2]) (.slice (some ⟨gg, 0, none⟩) (i1 + 1) cap) (cs1 ++ c11) i2 ks2 kv2 cs2 := by
 subst hn0
 have hR0 := hXb R hXR
 have hk1 : ∀ k, kv1.ownBlock = some k → w.heap.size + 3 ≤ k ∧ k < wr.heap.size := fun k hk => own_block L.h1.own hk
 have hk2 : ∀ k, kv2.ownBlock = some k → w.heap.size + 3 ≤ k ∧ k < wr.heap.size := fun k hk => own_block L.h2.own hk
 have hs1 := hE1.size
 have hs2 := ho2.2.2.2.1
 have hs3 : w2.heap.size + 1 ≤ w3.heap.size := by simpa using hgrow.size
 have hlsz := L.sz
 have hgg : w.heap.size + 3 ≤ gg := by
  rcases hat with h | h
  ·exact (hk1 gg h).1
  ·omega
 have hw3 : ∀ k, k < w2.heap.size → kv1.ownBlock ≠ some k → w3.heap[k]? = w2.heap[k]? := fun k hk hn =>
  (hgrow.block k (by simp; omega) (fun e => hn e.symm)).trans (((Ext.refl w2).alloc ob).block k hk)
 have hset : ∀ k, k ≠ w.heap.size + 2 → (w3.setCell ⟨w.heap.size + 2, off, none⟩ u).heap[k]? = w3.heap[k]? := fun k hk => Below.heap_setCell w3 ⟨w.heap.size + 2, off, none⟩ _ k hk
 have hmove : ∀ k, k < W1.heap.size → k ≠ R → kv1.ownBlock ≠ some k → k ≠ w.heap.size + 2 → (w3.setCell ⟨w.heap.size + 2, off, none⟩ u).heap[k]? = W1.heap[k]? := fun k hk h1 h2 h3 =>
  (hset k h3).trans ((hw3 k (by omega) h2).trans (ho2.2.2.2.2 k hk h1))
 have hon : Onx (XX2 X w.heap.size kv1 kv2) w2 (w3.setCell ⟨w.heap.size + 2, off, none⟩ u) :=
  ⟨by simp [World.setCell]; omega, fun k hk hx => (hset k (fun e => hx (.inr (.inr (.inr (.inr e)))))).trans (hw3 k hk (fun e => hx (.inr (.inl e))))⟩
 have hon0 : Onx (XX2 X w.heap.size kv1 kv2) wr w2 := (Onx.of_ext hE1 _).trans (ho2.onx (.inl hXR))
 have hSS : ∀ b, XX2 X w.heap.size (.slice (some ⟨gg, 0, none⟩) (i1 + 1) cap) kv2 b → XX2 X w.heap.size kv1 kv2 b ∨ b = gg := fun b hb => by
  rcases hb with hb | hb | hb
  ·exact .inl (.inl hb)
  ·injection hb with hb
   exact .inr hb.symm
  ·exact .inl (.inr (.inr hb))
 have hSg : XX2 X w.heap.size kv1 kv2 gg ∨ w2.heap.size ≤ gg := by
  rcases hat with h | h
  ·exact .inl (.inr (.inl h))
  ·exact .inr (by omega)
 have hfin : ∀ (v : List Value) (t : Vl), VlAt (XX2 X w.heap.size kv1 kv2) d w2 v t → VlAt (XX2 X w.heap.size (.slice (some ⟨gg, 0, none⟩) (i1 + 1) cap) kv2) d (w3.setCell ⟨w.heap.size + 2, off, none⟩ u) v t := fun v t h =>
  (VlAt.rel d v t).move h hon hSS hSg
 have hl1 : cs1.length = i1 * 11 := L.h1.own.1
 refine ⟨⟨hr2.1, by have := L.room; omega⟩, ?_, ?_, ?_, by simp [World.setCell]; omega, ⟨?_, by simp [L.h1.len], ?_, ?_⟩, ⟨?_, L.h2.len, fun j t hj => hfin _ _ (VlAt.onx hon0 _ _ _ (L.h2.kids j t hj)), fun hcc => L.h2.cut (by have := hr2.2; omega)⟩, ?_⟩
 ·refine (hset R (by omega)).trans ((hw3 R (by omega) (fun e => ?_)).trans hR2)
  have := hk1 R e
  omega
 ·refine ⟨?_, ?_, ?_, by simp [World.setCell]; have := L.one.2.2.2.1; omega, fun k hk hr => ?_⟩
  ·exact hgrow.os.trans (ho2.1.trans (hE1.os.trans L.one.1))
  ·exact hgrow.tape.trans (ho2.2.1.trans (hE1.tape.trans L.one.2.1))
  ·exact hgrow.output.trans (ho2.2.2.1.trans (hE1.output.trans L.one.2.2.1))
  ·have hk' : k < wr.heap.size := by omega
   rw [hmove k (by omega) hr (fun e => by have := hk1 k e; omega) (by omega), hE1.block k hk', L.one.2.2.2.2 k hk hr]
 ·exact (hmove _ (by omega) (by omega) (fun e => by have := hk1 _ e; omega) (by omega)).trans (L.out.ext hE1)
 ·obtain ⟨h1, h2⟩ := hown
  refine ⟨h1, ?_⟩
  rcases h2 with ⟨h, _⟩ | ⟨g', cap', cur, hv, hb, hg, q⟩
  ·cases h
  ·exact .inr ⟨g', cap', cur, hv, hb, (hset g' (by omega)).trans hg, q⟩
 ·intro j t hj
  rcases Nat.lt_or_ge j i1 with hji | hji
  ·rw [List.getElem?_append_left (by rw [L.h1.len]; exact hji)] at hj
   rw [take_left hl1 hji]
   exact hfin _ _ (VlAt.onx hon0 _ _ _ (L.h1.kids j t hj))
  ·have hj' := (List.getElem?_eq_some_iff.1 hj).1
   simp only [List.length_append, List.length_cons, List.length_nil, L.h1.len] at hj'
   obtain rfl : j = i1 := by omega
   rw [List.getElem?_append_right (by rw [L.h1.len]; omega), L.h1.len] at hj
   simp only [Nat.sub_self, List.getElem?_cons_zero, Option.some.injEq] at hj
   subst hj
   rw [take_right hl1 hl11]
   exact hfin _ _ ht2
 ·intro hcc j a b ha hb
  rcases Nat.lt_or_ge j i1 with hji | hji
  ·rw [List.getElem?_append_left (by rw [L.h1.len]; exact hji)] at ha
   exact L.h1.cut (by have := hr2.2; omega) j a b ha hb
  ·have hj' := (List.getElem?_eq_some_iff.1 ha).1
   simp only [List.length_append, List.length_cons, List.length_nil, L.h1.len] at hj'
   obtain rfl : j = i1 := by omega
   rw [List.getElem?_append_right (by rw [L.h1.len]; omega), L.h1.len] at ha
   simp only [Nat.sub_self, List.getElem?_cons_zero, Option.some.injEq] at ha
   subst ha
   rw [hi] at hb
   injection hb with hb
   subst hb
   exact hc2 hcc
 ·obtain ⟨h1, h2⟩ := L.h2.own
  refine ⟨h1, ?_⟩
  rcases h2 with h | ⟨g', cap', cur, hv, hb, hg, q⟩
  ·exact .inl h
  ·refine .inr ⟨g', cap', cur, hv, hb, ?_, q⟩
   have hob : kv2.ownBlock = some g' := by rw [hv]; rfl
   have hlt := (hk2 g' hob).2
   rw [hmove g' (by omega) (by omega) (fun e => L.apart g' e hob) (by omega), hE1.block g' hlt]
   exact hg
 ·intro k h1 h2
  injection h1 with h1
  simp only at h1
  subst h1
  rcases hat with h | h
  ·exact L.apart gg h h2
  ·have := (hk2 gg h2).2
   omega
/-- The copy's own block moves on. -/
theorem res_step {w2 w3 W1 : World} {R p off : Nat} {t : TypeId} {ob : Obj} {cs : Array Value} {kv u : Value} (L6 : Blk W1 p t cs) (ho2 : One W1 w2 R) (hR : p ≠ R) (hgrow : (w2.alloc ob).grownBy w3 kv.ownBlock) (hn : kv.ownBlock ≠ some p) :
  Blk w3 p t cs ∧ Blk (w3.setCell ⟨p, off, none⟩ u) p t (cs.setIfInBounds off u) := by
 have h2 : Blk w2 p t cs := ho2.blk L6 hR
 have h3 : Blk w3 p t cs := (hgrow.block p (by have := h2.lt; simp; omega) (fun e => hn e.symm)).trans (h2.alloc ob)
 exact ⟨h3, h3.set_ off u⟩
/-- Behind among's loops. -/
theorem acore_done {X : Nat → Prop} {R d n0 : Nat} {V : Vl} {w wr Wf : World} {r r1 : Int} {A : Option Addr} {c : Nat} {ks1 ks2 : List Vl} {A1 A2 : Option Addr} {c1 c2 : Nat} {cs1 cs2 : List Value} (hn0 : n0 = w.heap.size) (hXR : X R) (hXb : ∀ b, X b → b < w.heap.size)
  (L : ACore X R (d + 1) n0 V.keys V.kids w wr r V.keys.length r1 ks1 (.slice A1 V.keys.length c1) cs1 V.kids.length ks2 (.slice A2 V.kids.length c2) cs2) (hsz : Wf.heap.size = wr.heap.size) (hf : ∀ k, k ≠ n0 + 1 → Wf.heap[k]? = wr.heap[k]?)
  (hs : ScOk V.sc) (hd : SegR X w A (V.sc.data.map byteV)) (h1 : V.sc.data.length ≤ c) (h2 : c ≤ maxLen) :
  VlAt X (d + 2) Wf (vcells V.sc A c A1 V.keys.length c1 A2 V.kids.length c2) (.mk V.sc ks1 ks2) ∧ (0 ≤ r1 → Vl.mk V.sc ks1 ks2 = cutAt (d + 1) V) := by
 subst hn0
 have hsz3 := L.sz
 have hwz := L.one.2.2.2.1
 have hdat : SegR X Wf A (V.sc.data.map byteV) := fun hne => by
  obtain ⟨b, o, e, hb, hr, hc⟩ := hd hne
  have hbR : b ≠ R := fun e => hr (e ▸ hXR)
  refine ⟨b, o, e, by omega, hr, fun j u hu => ?_⟩
  have h1 : Wf.cell? ⟨b, o + j, none⟩ = wr.cell? ⟨b, o + j, none⟩ := World.cell?_of_block (a := ⟨b, o + j, none⟩) (hf b (by omega))
  exact h1.trans ((L.one.cell hb hbR).trans (hc j u hu))
 have half : ∀ (S : Nat → Prop) (f ks : List Vl) (A1 : Option Addr) (c1 : Nat) (cs : List Value), (∀ b, X b → S b) → S (w.heap.size + 1) → AHalf S (d + 1) w.heap.size f wr f.length ks (.slice A1 f.length c1) cs (0 ≤ r1) →
   RowOf X Wf A1 (VlAt X (d + 1) Wf) ks ∧ f.length ≤ c1 ∧ c1 ≤ maxLen := fun S f ks A1 c1 cs hXS hS1 H => by
  have hkids : ∀ (j : Nat) (t : Vl), ks[j]? = some t → VlAt X (d + 1) Wf ((cs.drop (j * 11)).take 11) t := fun j t hj =>
   VlAt.weak (fun b hb => .inl (hXS b hb)) _ _ _ (VlAt.onx (⟨by omega, fun k _ hx => hf k (fun e => hx (e ▸ hS1))⟩ : Onx S wr Wf) _ _ _ (H.kids j t hj))
  obtain ⟨q1, q2⟩ := H.own
  rcases q2 with ⟨hv, h0⟩ | ⟨g, cap, cur, hv, hb, hg, hle, hcap, hcs, htk⟩
  ·injection hv with e1 e2 e3
   subst e1; subst e3
   have hk0 : ks = [] := List.length_eq_zero_iff.1 (by have := H.len; omega)
   subst hk0
   exact ⟨RowOf.nil _ _ _ _, by omega, Nat.zero_le _⟩
  ·injection hv with e1 e2 e3
   subst e1; subst e3
   refine ⟨⟨cs, by rw [H.len]; exact q1, fun _ => ?_, hkids⟩, hle, hcap⟩
   have hgb : Blk wr g 39 cur := hg
   have hglt := hgb.lt
   refine ⟨g, 0, rfl, by omega, fun hx => ?_, fun j u hu => ?_⟩
   ·have := hXb g hx
    omega
   ·have h5 : Wf.cell? ⟨g, 0 + j, none⟩ = wr.cell? ⟨g, 0 + j, none⟩ := World.cell?_of_block (a := ⟨g, 0 + j, none⟩) (hf g (by omega))
    rw [h5, Nat.zero_add, hgb.cell]
    rw [← htk, List.getElem?_take] at hu
    split at hu
    ·simpa using hu
    ·cases hu
 obtain ⟨hr1, b1, m1⟩ := half _ _ _ _ _ _ (fun b hb => .inl hb) (.inr (.inr (.inr (.inl rfl)))) L.h1
 obtain ⟨hr2, b2, m2⟩ := half _ _ _ _ _ _ (fun b hb => .inl hb) (.inr (.inr (.inr (.inl rfl)))) L.h2
 constructor
 ·refine ⟨A, c, A1, c1, A2, c2, ?_, h1, h2, ?_, m1, ?_, m2, hs, hdat, hr1, hr2⟩
  ·simp only [Vl.sc_mk, Vl.keys_mk, Vl.kids_mk, L.h1.len, L.h2.len]
  ·simp only [Vl.keys_mk, L.h1.len]; exact b1
  ·simp only [Vl.kids_mk, L.h2.len]; exact b2
 ·intro h0
  have hmap : ∀ (S : Nat → Prop) (f ks : List Vl) (kv : Value) (cs : List Value), AHalf S (d + 1) w.heap.size f wr f.length ks kv cs (0 ≤ r1) → ks = f.map (cutAt d) := fun S f ks kv cs H => by
   refine List.ext_getElem (by simp [H.len]) fun j h1 h2 => ?_
   have h3 : j < f.length := by simpa using h2
   have := H.cut h0 j ks[j] f[j] (List.getElem?_eq_getElem h1) (List.getElem?_eq_getElem h3)
   rw [this]
   simp
  show _ = Vl.mk V.sc (V.keys.map (cutAt d)) (V.kids.map (cutAt d))
  rw [← hmap _ _ _ _ _ L.h1, ← hmap _ _ _ _ _ L.h2]
/-- What among leaves. -/
def APost (X : Nat → Prop) (R d : Nat) (r : Int) (V : Vl) (w : World) (e : Ending) (w' : World) : Prop :=
 ∃ v' V' r', e = .returned (.agg (List.toArray v')) ∧ VlAt X (d + 1) w' v' V' ∧ ((V' = Vl.bad ∨ V' = cutAt d V) ∧ (0 ≤ r' → V' = cutAt d V)) ∧ (-281474976710656 ≤ r' ∧ r' < r) ∧ Blk w' R 3 #[.int .i64 r'] ∧ One w w' R
theorem APost.mk {X : Nat → Prop} {R d : Nat} {r : Int} {V : Vl} {w w' : World} (v' : List Value) (V' : Vl) (r' : Int) (h1 : VlAt X (d + 1) w' v' V') (h2 : (V' = Vl.bad ∨ V' = cutAt d V) ∧ (0 ≤ r' → V' = cutAt d V)) (h3 : -281474976710656 ≤ r' ∧ r' < r) (h4 : Blk w' R 3 #[.int .i64 r']) (h5 : One w w' R) : APost X R d r V w (.returned (.agg (List.toArray v'))) w' :=
 ⟨v', V', r', rfl, h1, h2, h3, h4, h5⟩
theorem own_slice2 {w : World} {base e size n : Nat} {v : Value} {xs : List Value} (h : w.ownsRow base e size v n xs) : ∃ A c, v = .slice A n c := by
 rcases h.2 with ⟨rfl, rfl⟩ | ⟨g, cap, cur, rfl, _⟩
 ·exact ⟨_, _, rfl⟩
 ·exact ⟨_, _, rfl⟩
theorem setCells_heap (b : Nat) : ∀ (vs : List Value) (o : Nat) (w : World) (k : Nat), k ≠ b → (w.setCells b o vs).heap[k]? = w.heap[k]?
 |[], _, _, _, _ => rfl
 |v :: r, o, w, k, h => (setCells_heap b r (o + 1) _ k h).trans (Below.heap_setCell w ⟨b, o, none⟩ v k h)
theorem setCells_size (b : Nat) : ∀ (vs : List Value) (o : Nat) (w : World), (w.setCells b o vs).heap.size = w.heap.size
 |[], _, _ => rfl
 |v :: r, o, w => (setCells_size b r (o + 1) _).trans (by simp [World.setCell])
theorem setCells_one {w : World} {R b : Nat} (hb : w.heap.size ≤ b) : ∀ (vs : List Value) (o : Nat) (w' : World), One w w' R → One w (w'.setCells b o vs) R
 |[], _, _, h => h
 |v :: r, o, w', h => setCells_one hb r (o + 1) _ (h.set (p := ⟨b, o, none⟩) (.inr hb) v)
theorem setCells_ext {w : World} {b : Nat} (hb : w.heap.size ≤ b) : ∀ (vs : List Value) (o : Nat) (w' : World), Ext w w' → Ext w (w'.setCells b o vs)
 |[], _, _, h => h
 |v :: r, o, w', h => setCells_ext hb r (o + 1) _ (h.setCell (p := ⟨b, o, none⟩) hb v)
theorem setCells_blk {g : Nat} {t : TypeId} : ∀ (vs pre : List Value) (old : List Value) (w : World), old.length = vs.length → Blk w g t (pre ++ old).toArray → Blk (w.setCells g pre.length vs) g t (pre ++ vs).toArray
 |[], pre, old, w, hl, h => by
  have : old = [] := List.length_eq_zero_iff.1 hl
  subst this
  exact h
 |v :: r, pre, [], w, hl, h => by simp at hl
 |v :: r, pre, o :: old, w, hl, h => by
  have h1 := h.set_ pre.length v
  have e : (pre ++ o :: old).toArray.setIfInBounds pre.length v = ((pre ++ [v]) ++ old).toArray := by
   rw [List.setIfInBounds_toArray, List.set_append_right _ _ (Nat.le_refl _)]
   simp
  rw [e] at h1
  have h2 := setCells_blk r (pre ++ [v]) old _ (by simpa using hl) h1
  simp only [List.length_append, List.length_cons, List.length_nil, List.append_assoc, List.cons_append, List.nil_append] at h2
  exact h2
/-- A block that is known whole is written whole. -/
theorem Blk.setCells {w : World} {g : Nat} {t : TypeId} {old vs : List Value} (h : Blk w g t old.toArray) (hl : old.length = vs.length) : Blk (w.setCells g 0 vs) g t vs.toArray := by
 simpa using setCells_blk vs [] old w hl h
theorem Blk.there {w : World} {g : Nat} {t : TypeId} {cs : Array Value} (h : Blk w g t cs) {n : Nat} (hn : cs.size = n) : w.there g 0 n := fun j hj => by
 rw [Nat.zero_add]
 refine ⟨?_, h.frozen j⟩
 rw [h.cell, Array.getElem?_eq_getElem (by omega)]
 rfl
theorem hi30 : (Tryz.prog.info? 30).map (·.size) = some 11 := by kernel_rfl
theorem hi39 : (Tryz.prog.info? 39).map (·.size) = some 11 := by kernel_rfl
theorem Blk.range {w : World} {g : Nat} {t : TypeId} {vs : List Value} (h : Blk w g t vs.toArray) : w.rangeAt g 0 vs := fun j v hv => by
 rw [Nat.zero_add, h.cell]
 simpa using hv
/-- A copy that is cut off: the answer's block is written, and nothing else. -/
theorem bad_end {X : Nat → Prop} {R d n0 : Nat} {r r1 : Int} {V : Vl} {w wr : World} (hn0 : w.heap.size ≤ n0) (hRn : R ≠ n0) (hR : Blk wr R 3 #[.int .i64 r1]) (h1 : One w wr R) (hr : -281474976710656 ≤ r1 ∧ r1 < r) (hc : r1 < 0 ∨ d = 0) :
  APost X R d r V w (.returned (.agg #[.bool true, .int .i64 0, .float .f64 0, .string ⟨#[]⟩, .slice none 0 0, .int .i64 0, .int .i64 0, .int .i64 0, .int .i64 0, .slice none 0 0, .slice none 0 0]))
   (wr.setCells n0 0 [.bool true, .int .i64 0, .float .f64 0, .string ⟨#[]⟩, .slice none 0 0, .int .i64 0, .int .i64 0, .int .i64 0, .int .i64 0, .slice none 0 0, .slice none 0 0]) :=
 APost.mk (vcells Sc.none .none 0 .none 0 0 .none 0 0) Vl.bad r1 (VlAt.bad X d _) ⟨.inl rfl, fun h => hc.elim (fun hc => absurd hc (by omega)) (fun hc => by subst hc; rfl)⟩ hr ((setCells_heap _ _ _ _ R hRn).trans hR) (setCells_one hn0 _ _ _ h1)
set_option maxRecDepth 100000 in
set_option maxHeartbeats 6000000 in
theorem among_any : ∀ (d : Nat), d ≤ 8 → ∀ (X : Nat → Prop) (m : Nat) (v : List Value) (V : Vl) (R : Nat) (r : Int) (w : World), X R → (∀ b, X b → b < w.heap.size) → VlAt X m w v V → Blk w R 3 #[.int .i64 r] → 0 ≤ r ∧ r ≤ 5000 →
  Calls Tryz.prog 20 #[.agg v.toArray, .int .i64 d, .pointer (some ⟨R, 0, none⟩)] w (APost X R d r V w) := by
 intro d hd8
 induction d with
 |zero =>
  intro X m v V R r w hXR hXb hT hR hr
  cases m with
  |zero => exact hT.elim
  |succ m =>
   obtain ⟨A, c, A1, c1, A2, c2, rfl, h1, h2, h3, h4, h5, h6, hsc, hdat, hk1, hk2⟩ := hT
   obtain ⟨r0, rf⟩ := hR.c1
   have hlt := hR.lt
   have ht := hsc.text
   have hda := hsc.data
   unfold reach at ht hda
   have HR := Lib.hid hR
   have Hsc := Lib.hid hsc
   have Hdat := Lib.hid hdat
   have Hk1 := Lib.hid hk1
   have Hk2 := Lib.hid hk2
   have HXR := Lib.hid hXR
   have HXb := Lib.hid hXb
   have H2 := Lib.hid h2
   have H4 := Lib.hid h4
   have H6 := Lib.hid h6
   clear hR hsc hdat hk1 hk2 hXR hXb h2 h4 h6
   rw [show ((0 : Nat) : Int) = 0 from rfl]
   simp only [vcells]
   go_enter Tryz.func20, Tryz.ntmps20
   go_upto_region 1 with fail
   generalize hW0 : World.alloc _ (Obj.cells #[Value.bool false, Value.int IntKind.i64 0, Value.float FloatKind.f64 0, Value.string ⟨#[]⟩, Value.slice none 0 0, Value.int IntKind.i64 0, Value.int IntKind.i64 0, Value.int IntKind.i64 0, Value.int IntKind.i64 0, Value.slice none 0 0, Value.slice none 0 0] 39) = W0
   have hw0 : Blk W0 w.heap.size 30 #[.bool V.sc.nul, .int .i64 V.sc.n, .float .f64 V.sc.f, .string V.sc.text, .slice A V.sc.data.length c, .int .i64 V.sc.scale, .int .i64 V.sc.months, .int .i64 V.sc.days, .int .i64 V.sc.nanos, .slice A1 V.keys.length c1, .slice A2 V.kids.length c2] ∧ Blk W0 (w.heap.size + 1) 39 #[.bool false, .int .i64 0, .float .f64 0, .string ⟨#[]⟩, .slice none 0 0, .int .i64 0, .int .i64 0, .int .i64 0, .int .i64 0, .slice none 0 0, .slice none 0 0] ∧ Blk W0 R 3 #[.int .i64 r] ∧ One w W0 R ∧ W0.heap.size = w.heap.size + 2 := by
    rw [← hW0]
    exact ⟨(Blk.new w 30 _).alloc _, Blk.new' _ _ 39 _ (by simp), (HR.out.alloc _).alloc _, ((One.refl w R).alloc _).alloc _, by simp⟩
   clear hW0 r0 rf
   obtain ⟨hbox, hout, hRb, hone, hs0⟩ := hw0
   obtain ⟨r0, rf⟩ := hRb.c1
   have b3 : W0.cell? ⟨w.heap.size, 3, none⟩ = some (.string V.sc.text) := hbox.cell 3
   have b4 : W0.cell? ⟨w.heap.size, 4, none⟩ = some (.slice A V.sc.data.length c) := hbox.cell 4
   have e1 : IntKind.i64.wrap (1 + (V.sc.text.size : Int)) = 1 + V.sc.text.size := IntWalk.i64_in _ (by omega)
   have e2 : IntKind.i64.wrap (1 + (V.sc.text.size : Int) + V.sc.data.length) = 1 + V.sc.text.size + V.sc.data.length := IntWalk.i64_in _ (by omega)
   have e3 : IntKind.i64.wrap (r - (1 + (V.sc.text.size : Int) + V.sc.data.length)) = r - (1 + V.sc.text.size + V.sc.data.length) := IntWalk.i64_in _ (by omega)
   have Hbox := Lib.hid hbox
   have Hout := Lib.hid hout
   have HRb := Lib.hid hRb
   have Hone := Lib.hid hone
   have Hs0 := Lib.hid hs0
   clear hbox hout hRb hone hs0
   refine wp_region_K (fun w' => w'.cell? ⟨R, 0, none⟩ = some (Value.int IntKind.i64 r) ∧ w'.cell? ⟨w.heap.size, 3, none⟩ = some (.string V.sc.text) ∧ w'.cell? ⟨w.heap.size, 4, none⟩ = some (.slice A V.sc.data.length c)) (ix [2, 4, 5, 6, 8, 9, 10]) 14 [false, false, false, false, false, false, false, false, false, false, false, false, false, false] (by kernel_rfl) rfl rfl ?_
   refine fV 0 (v := ?vz1x0) rfl (by rfl) ?yz1x0 ?_
   case yz1x0 => intro w; go_simp; with_reducible rfl
   simp only [aP, aN, aT, aZ, aS]
   refine fV 3 (v := ?vz1x3) rfl (by rfl) ?yz1x3 ?_
   case yz1x3 => intro w; go_simp; with_reducible rfl
   simp only [aP, aN, aT, aZ, aS]
   refine fV 7 (v := ?vz1x7) rfl (by rfl) ?yz1x7 ?_
   case yz1x7 => intro w; go_simp; with_reducible rfl
   simp only [aP, aN, aT, aZ, aS]
   refine fV 1 (v := ?vz1x1) rfl (by rfl) ?yz1x1 ?_
   case yz1x1 => intro w; go_simp; with_reducible rfl
   simp only [aP, aN, aT, aZ, aS]
   refine tV 2 (ix [11, 12, 13]) (v := ?vz1x2) rfl ⟨r0, b3, b4⟩ (by rfl) ?yz1x2 ?_
   case yz1x2 => rintro w ⟨hs0, hs1, hs2⟩; go_simp; with_reducible rfl
   simp only [aP, aN, aT, aZ, aS]
   refine tV 4 (ix [5, 6, 10, 11, 12, 13]) (v := ?vz1x4) rfl ⟨r0, b3, b4⟩ (by rfl) ?yz1x4 ?_
   case yz1x4 => rintro w ⟨hs0, hs1, hs2⟩; go_simp; with_reducible rfl
   simp only [aP, aN, aT, aZ, aS]
   refine tV 5 (ix [6, 10, 11, 12, 13]) (v := ?vz1x5) rfl ⟨r0, b3, b4⟩ (by rfl) ?yz1x5 ?_
   case yz1x5 => rintro w ⟨hs0, hs1, hs2⟩; go_simp; with_reducible rfl
   simp only [aP, aN, aT, aZ, aS]
   refine tV 6 (rg 10 13) (v := ?vz1x6) rfl ⟨r0, b3, b4⟩ (by rfl) ?yz1x6 ?_
   case yz1x6 => rintro w ⟨hs0, hs1, hs2⟩; go_simp; with_reducible rfl
   simp only [aP, aN, aT, aZ, aS]
   refine tV 8 (rg 9 13) (v := ?vz1x8) rfl ⟨r0, b3, b4⟩ (by rfl) ?yz1x8 ?_
   case yz1x8 => rintro w ⟨hs0, hs1, hs2⟩; go_simp; with_reducible rfl
   simp only [aP, aN, aT, aZ, aS]
   refine tV 9 (rg 10 13) (v := ?vz1x9) rfl ⟨r0, b3, b4⟩ (by rfl) ?yz1x9 ?_
   case yz1x9 => rintro w ⟨hs0, hs1, hs2⟩; go_simp; with_reducible rfl
   simp only [aP, aN, aT, aZ, aS]
   refine tV 10 (ix [11, 12, 13]) (v := ?vz1x10) rfl ⟨r0, b3, b4⟩ (by rfl) ?yz1x10 ?_
   case yz1x10 => rintro w ⟨hs0, hs1, hs2⟩; go_simp; with_reducible rfl
   simp only [aP, aN, aT, aZ, aS]
   refine fV 11 (v := ?vz1x11) rfl (by rfl) ?yz1x11 ?_
   case yz1x11 => intro w; go_simp; with_reducible rfl
   simp only [aP, aN, aT, aZ, aS]
   refine fV 12 (v := ?vz1x12) rfl (by rfl) ?yz1x12 ?_
   case yz1x12 => intro w; go_simp; with_reducible rfl
   simp only [aP, aN, aT, aZ, aS]
   refine wpAnyK_one 13 (by kernel_rfl) rfl rfl (fun K' hK => ?_)
   go_simp
   refine hK.out _ _ (fun h => absurd h (by decide)) ?_
   clear hK K'
   simp only [aP, aN, aT, aZ, aS]
   refine wpAnyK_done (by kernel_rfl) ?_ _
   clear e1 e2 e3
   have hq : -281474976710656 ≤ r - (1 + (V.sc.text.size : Int) + V.sc.data.length) ∧ r - (1 + (V.sc.text.size : Int) + V.sc.data.length) ≤ r - 1 := by omega
   generalize r - (1 + (V.sc.text.size : Int) + V.sc.data.length) = q at hq
   generalize hW1 : (World.setCell W0 ⟨R, 0, none⟩ (Value.int IntKind.i64 q)).drew = W1
   have hw1 : Blk W1 w.heap.size 30 #[.bool V.sc.nul, .int .i64 V.sc.n, .float .f64 V.sc.f, .string V.sc.text, .slice A V.sc.data.length c, .int .i64 V.sc.scale, .int .i64 V.sc.months, .int .i64 V.sc.days, .int .i64 V.sc.nanos, .slice A1 V.keys.length c1, .slice A2 V.kids.length c2] ∧ Blk W1 (w.heap.size + 1) 39 #[.bool false, .int .i64 0, .float .f64 0, .string ⟨#[]⟩, .slice none 0 0, .int .i64 0, .int .i64 0, .int .i64 0, .int .i64 0, .slice none 0 0, .slice none 0 0] ∧ Blk W1 R 3 #[.int .i64 q] ∧ One w W1 R ∧ W1.heap.size = w.heap.size + 2 := by
    rw [← hW1]
    exact ⟨((Hbox.out.off (by omega) _).drew), (Hout.out.off (by omega) _).drew, (HRb.out.set_ 0 _).drew, (Hone.out.set (.inl rfl) _).drew, by have := Hs0.out; simpa [World.setCell] using this⟩
   clear hW1 r0 rf b3 b4 Hbox Hout HRb Hone Hs0
   obtain ⟨hbox, hout, hRb, hone, hs1⟩ := hw1
   obtain ⟨b0, b1, b2, b3, b4, b5, b6, b7, b8, b9, b10⟩ := hbox.c11
   obtain ⟨r0, rf⟩ := hRb.c1
   have hth : W1.there (w.heap.size + 1) 0 11 := hout.there rfl
   have Hbox := Lib.hid hbox
   have Hout := Lib.hid hout
   have HRb := Lib.hid hRb
   have Hone := Lib.hid hone
   have hlt1 : w.heap.size + 1 < W1.heap.size := by omega
   have Hs1 := Lib.hid hs1
   clear hbox hout hRb hone hs1
   by_cases hz : q < 0
   ·go_wp2_with (refine wpList_store_mid (op := ⟨none, .store 39 _ _, _, _, _, _⟩) rfl 39 _ _ rfl (w.heap.size + 1) 0 #[.bool true, .int .i64 0, .float .f64 0, .string ⟨#[]⟩, .slice none 0 0, .int .i64 0, .int .i64 0, .int .i64 0, .int .i64 0, .slice none 0 0, .slice none 0 0] (by rfl) (by rfl) hth hi39 (by simp [Value.oneCell']) ?_)
    generalize hWf : World.setCells _ _ _ _ = Wf
    have hbad := bad_end (X := X) (R := R) (d := 0) (V := V) (r := r) (w := w) (wr := W1) (n0 := w.heap.size + 1) (by omega) (by omega) HRb.out Hone.out ⟨by omega, by omega⟩ (.inl (by omega))
    have hob : Blk Wf (w.heap.size + 1) 39 #[.bool true, .int .i64 0, .float .f64 0, .string ⟨#[]⟩, .slice none 0 0, .int .i64 0, .int .i64 0, .int .i64 0, .int .i64 0, .slice none 0 0, .slice none 0 0] := by rw [← hWf]; exact Blk.setCells Hout.out rfl
    have hWf' : W1.setCells (w.heap.size + 1) 0 [.bool true, .int .i64 0, .float .f64 0, .string ⟨#[]⟩, .slice none 0 0, .int .i64 0, .int .i64 0, .int .i64 0, .int .i64 0, .slice none 0 0, .slice none 0 0] = Wf := hWf
    rw [hWf'] at hbad
    clear hWf hWf'
    obtain ⟨z0, z1, z2, z3, z4, z5, z6, z7, z8, z9, z10⟩ := hob.c11
    exact bodyPost_ret (by simp [results, Tryz.results20, go_sem, z0, z1, z2, z3, z4, z5, z6, z7, z8, z9, z10]) rfl hbad
   ·go_wp2_with (refine wpList_store_mid (op := ⟨none, .store 39 _ _, _, _, _, _⟩) rfl 39 _ _ rfl (w.heap.size + 1) 0 #[.bool true, .int .i64 0, .float .f64 0, .string ⟨#[]⟩, .slice none 0 0, .int .i64 0, .int .i64 0, .int .i64 0, .int .i64 0, .slice none 0 0, .slice none 0 0] (by rfl) (by rfl) hth hi39 (by simp [Value.oneCell']) ?_)
    generalize hWf : World.setCells _ _ _ _ = Wf
    have hbad := bad_end (X := X) (R := R) (d := 0) (V := V) (r := r) (w := w) (wr := W1) (n0 := w.heap.size + 1) (by omega) (by omega) HRb.out Hone.out ⟨by omega, by omega⟩ (.inr rfl)
    have hob : Blk Wf (w.heap.size + 1) 39 #[.bool true, .int .i64 0, .float .f64 0, .string ⟨#[]⟩, .slice none 0 0, .int .i64 0, .int .i64 0, .int .i64 0, .int .i64 0, .slice none 0 0, .slice none 0 0] := by rw [← hWf]; exact Blk.setCells Hout.out rfl
    have hWf' : W1.setCells (w.heap.size + 1) 0 [.bool true, .int .i64 0, .float .f64 0, .string ⟨#[]⟩, .slice none 0 0, .int .i64 0, .int .i64 0, .int .i64 0, .int .i64 0, .slice none 0 0, .slice none 0 0] = Wf := hWf
    rw [hWf'] at hbad
    clear hWf hWf'
    obtain ⟨z0, z1, z2, z3, z4, z5, z6, z7, z8, z9, z10⟩ := hob.c11
    exact bodyPost_ret (by simp [results, Tryz.results20, go_sem, z0, z1, z2, z3, z4, z5, z6, z7, z8, z9, z10]) rfl hbad
 |succ d ih =>
  obtain ⟨i0, hi0, hz0, hz1, hz2⟩ := info_parts info39
  intro X m v V R r w hXR hXb hT hR hr
  cases m with
  |zero => exact hT.elim
  |succ m =>
   obtain ⟨A, c, A1, c1, A2, c2, rfl, h1, h2, h3, h4, h5, h6, hsc, hdat, hk1, hk2⟩ := hT
   obtain ⟨r0, rf⟩ := hR.c1
   have hlt := hR.lt
   have ht := hsc.text
   have hda := hsc.data
   unfold reach at ht hda
   have HR := Lib.hid hR
   have Hsc := Lib.hid hsc
   have Hdat := Lib.hid hdat
   have Hk1 := Lib.hid hk1
   have Hk2 := Lib.hid hk2
   have IH := Lib.hid ih
   have HXR := Lib.hid hXR
   have HXb := Lib.hid hXb
   have H2 := Lib.hid h2
   have H4 := Lib.hid h4
   have H6 := Lib.hid h6
   have hdb : (((d : Int) + 1) == 0) = false := by simp; omega
   clear hR hsc hdat hk1 hk2 ih hXR hXb h2 h4 h6
   rw [show ((d + 1 : Nat) : Int) = (d : Int) + 1 from by omega]
   simp only [vcells]
   go_enter Tryz.func20, Tryz.ntmps20
   go_upto_region 1 with fail
   generalize hW0 : World.alloc _ (Obj.cells #[Value.bool false, Value.int IntKind.i64 0, Value.float FloatKind.f64 0, Value.string ⟨#[]⟩, Value.slice none 0 0, Value.int IntKind.i64 0, Value.int IntKind.i64 0, Value.int IntKind.i64 0, Value.int IntKind.i64 0, Value.slice none 0 0, Value.slice none 0 0] 39) = W0
   have hw0 : Blk W0 w.heap.size 30 #[.bool V.sc.nul, .int .i64 V.sc.n, .float .f64 V.sc.f, .string V.sc.text, .slice A V.sc.data.length c, .int .i64 V.sc.scale, .int .i64 V.sc.months, .int .i64 V.sc.days, .int .i64 V.sc.nanos, .slice A1 V.keys.length c1, .slice A2 V.kids.length c2] ∧ Blk W0 (w.heap.size + 1) 39 #[.bool false, .int .i64 0, .float .f64 0, .string ⟨#[]⟩, .slice none 0 0, .int .i64 0, .int .i64 0, .int .i64 0, .int .i64 0, .slice none 0 0, .slice none 0 0] ∧ Blk W0 R 3 #[.int .i64 r] ∧ One w W0 R ∧ W0.heap.size = w.heap.size + 2 := by
    rw [← hW0]
    exact ⟨(Blk.new w 30 _).alloc _, Blk.new' _ _ 39 _ (by simp), (HR.out.alloc _).alloc _, ((One.refl w R).alloc _).alloc _, by simp⟩
   clear hW0 r0 rf
   obtain ⟨hbox, hout, hRb, hone, hs0⟩ := hw0
   obtain ⟨r0, rf⟩ := hRb.c1
   have b3 : W0.cell? ⟨w.heap.size, 3, none⟩ = some (.string V.sc.text) := hbox.cell 3
   have b4 : W0.cell? ⟨w.heap.size, 4, none⟩ = some (.slice A V.sc.data.length c) := hbox.cell 4
   have e1 : IntKind.i64.wrap (1 + (V.sc.text.size : Int)) = 1 + V.sc.text.size := IntWalk.i64_in _ (by omega)
   have e2 : IntKind.i64.wrap (1 + (V.sc.text.size : Int) + V.sc.data.length) = 1 + V.sc.text.size + V.sc.data.length := IntWalk.i64_in _ (by omega)
   have e3 : IntKind.i64.wrap (r - (1 + (V.sc.text.size : Int) + V.sc.data.length)) = r - (1 + V.sc.text.size + V.sc.data.length) := IntWalk.i64_in _ (by omega)
   have Hbox := Lib.hid hbox
   have Hout := Lib.hid hout
   have HRb := Lib.hid hRb
   have Hone := Lib.hid hone
   have Hs0 := Lib.hid hs0
   clear hbox hout hRb hone hs0
   refine wp_region_K (fun w' => w'.cell? ⟨R, 0, none⟩ = some (Value.int IntKind.i64 r) ∧ w'.cell? ⟨w.heap.size, 3, none⟩ = some (.string V.sc.text) ∧ w'.cell? ⟨w.heap.size, 4, none⟩ = some (.slice A V.sc.data.length c)) (ix [2, 4, 5, 6, 8, 9, 10]) 14 [false, false, false, false, false, false, false, false, false, false, false, false, false, false] (by kernel_rfl) rfl rfl ?_
   refine fV 0 (v := ?v1x0) rfl (by rfl) ?y1x0 ?_
   case y1x0 => intro w; go_simp; with_reducible rfl
   simp only [aP, aN, aT, aZ, aS]
   refine fV 3 (v := ?v1x3) rfl (by rfl) ?y1x3 ?_
   case y1x3 => intro w; go_simp; with_reducible rfl
   simp only [aP, aN, aT, aZ, aS]
   refine fV 7 (v := ?v1x7) rfl (by rfl) ?y1x7 ?_
   case y1x7 => intro w; go_simp; with_reducible rfl
   simp only [aP, aN, aT, aZ, aS]
   refine fV 1 (v := ?v1x1) rfl (by rfl) ?y1x1 ?_
   case y1x1 => intro w; go_simp; with_reducible rfl
   simp only [aP, aN, aT, aZ, aS]
   refine tV 2 (ix [11, 12, 13]) (v := ?v1x2) rfl ⟨r0, b3, b4⟩ (by rfl) ?y1x2 ?_
   case y1x2 => rintro w ⟨hs0, hs1, hs2⟩; go_simp; with_reducible rfl
   simp only [aP, aN, aT, aZ, aS]
   refine tV 4 (ix [5, 6, 10, 11, 12, 13]) (v := ?v1x4) rfl ⟨r0, b3, b4⟩ (by rfl) ?y1x4 ?_
   case y1x4 => rintro w ⟨hs0, hs1, hs2⟩; go_simp; with_reducible rfl
   simp only [aP, aN, aT, aZ, aS]
   refine tV 5 (ix [6, 10, 11, 12, 13]) (v := ?v1x5) rfl ⟨r0, b3, b4⟩ (by rfl) ?y1x5 ?_
   case y1x5 => rintro w ⟨hs0, hs1, hs2⟩; go_simp; with_reducible rfl
   simp only [aP, aN, aT, aZ, aS]
   refine tV 6 (rg 10 13) (v := ?v1x6) rfl ⟨r0, b3, b4⟩ (by rfl) ?y1x6 ?_
   case y1x6 => rintro w ⟨hs0, hs1, hs2⟩; go_simp; with_reducible rfl
   simp only [aP, aN, aT, aZ, aS]
   refine tV 8 (rg 9 13) (v := ?v1x8) rfl ⟨r0, b3, b4⟩ (by rfl) ?y1x8 ?_
   case y1x8 => rintro w ⟨hs0, hs1, hs2⟩; go_simp; with_reducible rfl
   simp only [aP, aN, aT, aZ, aS]
   refine tV 9 (rg 10 13) (v := ?v1x9) rfl ⟨r0, b3, b4⟩ (by rfl) ?y1x9 ?_
   case y1x9 => rintro w ⟨hs0, hs1, hs2⟩; go_simp; with_reducible rfl
   simp only [aP, aN, aT, aZ, aS]
   refine tV 10 (ix [11, 12, 13]) (v := ?v1x10) rfl ⟨r0, b3, b4⟩ (by rfl) ?y1x10 ?_
   case y1x10 => rintro w ⟨hs0, hs1, hs2⟩; go_simp; with_reducible rfl
   simp only [aP, aN, aT, aZ, aS]
   refine fV 11 (v := ?v1x11) rfl (by rfl) ?y1x11 ?_
   case y1x11 => intro w; go_simp; with_reducible rfl
   simp only [aP, aN, aT, aZ, aS]
   refine fV 12 (v := ?v1x12) rfl (by rfl) ?y1x12 ?_
   case y1x12 => intro w; go_simp; with_reducible rfl
   simp only [aP, aN, aT, aZ, aS]
   refine wpAnyK_one 13 (by kernel_rfl) rfl rfl (fun K' hK => ?_)
   go_simp
   refine hK.out _ _ (fun h => absurd h (by decide)) ?_
   clear hK K'
   simp only [aP, aN, aT, aZ, aS]
   refine wpAnyK_done (by kernel_rfl) ?_ _
   clear e1 e2 e3
   have hq : -281474976710656 ≤ r - (1 + (V.sc.text.size : Int) + V.sc.data.length) ∧ r - (1 + (V.sc.text.size : Int) + V.sc.data.length) ≤ r - 1 := by omega
   generalize r - (1 + (V.sc.text.size : Int) + V.sc.data.length) = q at hq
   generalize hW1 : (World.setCell W0 ⟨R, 0, none⟩ (Value.int IntKind.i64 q)).drew = W1
   have hw1 : Blk W1 w.heap.size 30 #[.bool V.sc.nul, .int .i64 V.sc.n, .float .f64 V.sc.f, .string V.sc.text, .slice A V.sc.data.length c, .int .i64 V.sc.scale, .int .i64 V.sc.months, .int .i64 V.sc.days, .int .i64 V.sc.nanos, .slice A1 V.keys.length c1, .slice A2 V.kids.length c2] ∧ Blk W1 (w.heap.size + 1) 39 #[.bool false, .int .i64 0, .float .f64 0, .string ⟨#[]⟩, .slice none 0 0, .int .i64 0, .int .i64 0, .int .i64 0, .int .i64 0, .slice none 0 0, .slice none 0 0] ∧ Blk W1 R 3 #[.int .i64 q] ∧ One w W1 R ∧ W1.heap.size = w.heap.size + 2 := by
    rw [← hW1]
    exact ⟨((Hbox.out.off (by omega) _).drew), (Hout.out.off (by omega) _).drew, (HRb.out.set_ 0 _).drew, (Hone.out.set (.inl rfl) _).drew, by have := Hs0.out; simpa [World.setCell] using this⟩
   clear hW1 r0 rf b3 b4 Hbox Hout HRb Hone Hs0
   obtain ⟨hbox, hout, hRb, hone, hs1⟩ := hw1
   obtain ⟨b0, b1, b2, b3, b4, b5, b6, b7, b8, b9, b10⟩ := hbox.c11
   obtain ⟨r0, rf⟩ := hRb.c1
   have hth : W1.there (w.heap.size + 1) 0 11 := hout.there rfl
   have Hbox := Lib.hid hbox
   have Hout := Lib.hid hout
   have HRb := Lib.hid hRb
   have Hone := Lib.hid hone
   have hlt1 : w.heap.size + 1 < W1.heap.size := by omega
   have Hs1 := Lib.hid hs1
   clear hbox hout hRb hone hs1
   by_cases hz : q < 0
   ·go_wp2_with (refine wpList_store_mid (op := ⟨none, .store 39 _ _, _, _, _, _⟩) rfl 39 _ _ rfl (w.heap.size + 1) 0 #[.bool true, .int .i64 0, .float .f64 0, .string ⟨#[]⟩, .slice none 0 0, .int .i64 0, .int .i64 0, .int .i64 0, .int .i64 0, .slice none 0 0, .slice none 0 0] (by rfl) (by rfl) hth hi39 (by simp [Value.oneCell']) ?_)
    generalize hWf : World.setCells _ _ _ _ = Wf
    have hbad := bad_end (X := X) (R := R) (d := d + 1) (V := V) (r := r) (w := w) (wr := W1) (n0 := w.heap.size + 1) (by omega) (by omega) HRb.out Hone.out ⟨by omega, by omega⟩ (.inl (by omega))
    have hob : Blk Wf (w.heap.size + 1) 39 #[.bool true, .int .i64 0, .float .f64 0, .string ⟨#[]⟩, .slice none 0 0, .int .i64 0, .int .i64 0, .int .i64 0, .int .i64 0, .slice none 0 0, .slice none 0 0] := by rw [← hWf]; exact Blk.setCells Hout.out rfl
    have hWf' : W1.setCells (w.heap.size + 1) 0 [.bool true, .int .i64 0, .float .f64 0, .string ⟨#[]⟩, .slice none 0 0, .int .i64 0, .int .i64 0, .int .i64 0, .int .i64 0, .slice none 0 0, .slice none 0 0] = Wf := hWf
    rw [hWf'] at hbad
    clear hWf hWf'
    obtain ⟨z0, z1, z2, z3, z4, z5, z6, z7, z8, z9, z10⟩ := hob.c11
    exact bodyPost_ret (by simp [results, Tryz.results20, go_sem, z0, z1, z2, z3, z4, z5, z6, z7, z8, z9, z10]) rfl hbad
   ·clear hth
    go_upto_region 4 with fail
    refine wp_region_lit ?_
    iterate 20 (refine wpList_plain rfl (fun K hK => ?_); go_simp; refine hK _ _ ?_; clear hK K; try simp only [aP, aN, aT, aZ, aS])
    refine wpList_store_mid rfl 39 _ _ rfl W1.heap.size 0 #[.bool V.sc.nul, .int .i64 V.sc.n, .float .f64 V.sc.f, .string V.sc.text, .slice A V.sc.data.length c, .int .i64 V.sc.scale, .int .i64 V.sc.months, .int .i64 V.sc.days, .int .i64 V.sc.nanos, .slice none 0 0, .slice none 0 0] (by rfl) (by rfl) ((Blk.new W1 39 #[.bool false, .int .i64 0, .float .f64 0, .string ⟨#[]⟩, .slice none 0 0, .int .i64 0, .int .i64 0, .int .i64 0, .int .i64 0, .slice none 0 0, .slice none 0 0]).there rfl) hi39 (by simp [Value.oneCell']) ?_
    generalize hp : W1.heap.size = p
    have hp1 : p < w.heap.size + 3 := by have := Hs1.out; omega
    have hp2 : w.heap.size + 2 ≤ p := by have := Hs1.out; omega
    have Hp : Hid (p = w.heap.size + 2) := Lib.hid (by omega)
    have HpW := Lib.hid hp
    generalize hWL : World.setCells _ p _ _ = WL
    have hres : Blk WL p 39 #[.bool V.sc.nul, .int .i64 V.sc.n, .float .f64 V.sc.f, .string V.sc.text, .slice A V.sc.data.length c, .int .i64 V.sc.scale, .int .i64 V.sc.months, .int .i64 V.sc.days, .int .i64 V.sc.nanos, .slice none 0 0, .slice none 0 0] := hWL ▸ (Blk.setCells (Blk.new' W1 p 39 #[.bool false, .int .i64 0, .float .f64 0, .string ⟨#[]⟩, .slice none 0 0, .int .i64 0, .int .i64 0, .int .i64 0, .int .i64 0, .slice none 0 0, .slice none 0 0] HpW.out.symm) rfl)
    have hoth : ∀ k, k < p → WL.heap[k]? = W1.heap[k]? := fun k hk => by
     rw [← hWL]
     exact (setCells_heap _ _ _ _ k (by omega)).trans (((Ext.refl W1).alloc _).block k (by have := HpW.out; omega))
    have honeL : One w WL R := hWL ▸ setCells_one (by omega) _ _ _ (Hone.out.alloc _)
    have hcore : ACore X R (d + 1) w.heap.size V.keys V.kids w WL r 0 q [] (.slice none 0 0) [] 0 [] (.slice none 0 0) [] :=
     ⟨⟨hq.1, by omega⟩, (hoth R (by omega)).trans HRb.out, honeL, (hoth _ (by omega)).trans Hout.out, by have := hres.lt; omega, ⟨World.ownsRow_nil _ _ _ _, rfl, fun j t h => by simp at h, fun _ j a b h => by simp at h⟩,
      ⟨World.ownsRow_nil _ _ _ _, rfl, fun j t h => by simp at h, fun _ j a b h => by simp at h⟩, fun k h => by cases h⟩
    have hboxL : Blk WL w.heap.size 30 #[.bool V.sc.nul, .int .i64 V.sc.n, .float .f64 V.sc.f, .string V.sc.text, .slice A V.sc.data.length c, .int .i64 V.sc.scale, .int .i64 V.sc.months, .int .i64 V.sc.days, .int .i64 V.sc.nanos, .slice A1 V.keys.length c1, .slice A2 V.kids.length c2] := (hoth _ (by omega)).trans Hbox.out
    have HcL := Lib.hid hcore
    have HrL := Lib.hid hres
    have HbL := Lib.hid hboxL
    obtain ⟨d0, d1, d2, d3, d4, d5, d6, d7, d8, d9, d10⟩ := hboxL.c11
    clear hWL hres hoth honeL hcore hboxL hp b0 b1 b2 b3 b4 b5 b6 b7 b8 b9 b10 r0 rf hq HR Hbox Hout HRb Hone HpW Hs1 hlt1
    go_wp2_with fail
    clear d0 d1 d2 d3 d4 d5 d6 d7 d8 d9 d10
    go_loopw [56] (fun v wr => ∃ (i : Nat) (r1 : Int) (ks : List Vl) (kv : Value) (cs : List Value), i ≤ V.keys.length ∧ v = .int .i64 i ∧ ACore X R (d + 1) w.heap.size V.keys V.kids w wr r i r1 ks kv cs 0 [] (.slice none 0 0) [] ∧ Blk wr p 39 #[.bool V.sc.nul, .int .i64 V.sc.n, .float .f64 V.sc.f, .string V.sc.text, .slice A V.sc.data.length c, .int .i64 V.sc.scale, .int .i64 V.sc.months, .int .i64 V.sc.days, .int .i64 V.sc.nanos, kv, .slice none 0 0] ∧ Blk wr w.heap.size 30 #[.bool V.sc.nul, .int .i64 V.sc.n, .float .f64 V.sc.f, .string V.sc.text, .slice A V.sc.data.length c, .int .i64 V.sc.scale, .int .i64 V.sc.months, .int .i64 V.sc.days, .int .i64 V.sc.nanos, .slice A1 V.keys.length c1, .slice A2 V.kids.length c2]) (fun v _ => V.keys.length - (intOf v).toNat)
    case atStart => exact ⟨0, q, [], _, [], Nat.zero_le _, rfl, HcL.out, HrL.out, HbL.out⟩
    case round =>
     obtain ⟨i, r1, ks, kv, cs, hile, rfl, hL, hres, hbox⟩ := hrel
     have HL := Lib.hid hL
     have HRes := Lib.hid hres
     have HBox := Lib.hid hbox
     clear hL hres hbox HcL HrL HbL
     by_cases hlti : (i : Int) < V.keys.length
     ·skip
      have hi' : i < V.keys.length := by omega
      obtain ⟨cs0, hcs0, hseg, hrow⟩ := Hk1.out
      have hkt : V.keys[i]? = some V.keys[i] := List.getElem?_eq_getElem hi'
      have hkid := hrow i _ hkt
      generalize V.keys[i] = kt at hkt hkid
      obtain ⟨kA, kc, kA1, kc1, kA2, kc2, hkv, _⟩ := hkid.form
      obtain ⟨b, o, hA, hb, hbX, hcell⟩ := row_cells hseg hkv rfl
      subst hA
      rw [hkv] at hkid
      have hbR : b ≠ R := fun e => hbX (e ▸ HXR.out)
      have hrange : wr.rangeAt b (o + i * 11) [.bool kt.sc.nul, .int .i64 kt.sc.n, .float .f64 kt.sc.f, .string kt.sc.text, .slice kA kt.sc.data.length kc, .int .i64 kt.sc.scale, .int .i64 kt.sc.months, .int .i64 kt.sc.days, .int .i64 kt.sc.nanos, .slice kA1 kt.keys.length kc1, .slice kA2 kt.kids.length kc2] := fun j u hu => (HL.out.one.cell hb hbR).trans (hcell j u hu)
      have Hkt := Lib.hid hkt
      have Hkid := Lib.hid hkid
      clear hkt hkid hkv hcell hseg hrow hcs0
      go_upto_region 7 with fail
      refine wp_region_lit ?_
      iterate 1 (refine wpList_plain rfl (fun K hK => ?_); go_simp; refine hK _ _ ?_; clear hK K; try simp only [aP, aN, aT, aZ, aS])
      refine wpList_load_mid rfl 30 _ rfl b (o + i * 11) (by rfl) [.bool kt.sc.nul, .int .i64 kt.sc.n, .float .f64 kt.sc.f, .string kt.sc.text, .slice kA kt.sc.data.length kc, .int .i64 kt.sc.scale, .int .i64 kt.sc.months, .int .i64 kt.sc.days, .int .i64 kt.sc.nanos, .slice kA1 kt.keys.length kc1, .slice kA2 kt.kids.length kc2] _ hrange Tryz.underlying30 rfl hi30 ?_
      simp only [aP, aN, aT, aZ, aS]
      iterate 1 (refine wpList_plain rfl (fun K hK => ?_); go_simp; refine hK _ _ ?_; clear hK K; try simp only [aP, aN, aT, aZ, aS])
      refine wpList_store_mid rfl 30 _ _ rfl wr.heap.size 0 #[.bool kt.sc.nul, .int .i64 kt.sc.n, .float .f64 kt.sc.f, .string kt.sc.text, .slice kA kt.sc.data.length kc, .int .i64 kt.sc.scale, .int .i64 kt.sc.months, .int .i64 kt.sc.days, .int .i64 kt.sc.nanos, .slice kA1 kt.keys.length kc1, .slice kA2 kt.kids.length kc2] (by rfl) (by rfl) ((Blk.new wr 30 #[.bool false, .int .i64 0, .float .f64 0, .string ⟨#[]⟩, .slice none 0 0, .int .i64 0, .int .i64 0, .int .i64 0, .int .i64 0, .slice none 0 0, .slice none 0 0]).there rfl) hi30 (by simp [Value.oneCell']) ?_
      generalize hW2 : World.setCells _ wr.heap.size _ _ = W2
      have hE1 : Ext wr W2 := hW2 ▸ setCells_ext (Nat.le_refl _) _ _ _ ((Ext.refl wr).alloc _)
      have hK1 : Blk W2 wr.heap.size 30 #[.bool kt.sc.nul, .int .i64 kt.sc.n, .float .f64 kt.sc.f, .string kt.sc.text, .slice kA kt.sc.data.length kc, .int .i64 kt.sc.scale, .int .i64 kt.sc.months, .int .i64 kt.sc.days, .int .i64 kt.sc.nanos, .slice kA1 kt.keys.length kc1, .slice kA2 kt.kids.length kc2] := hW2 ▸ (Blk.setCells (Blk.new wr 30 #[.bool false, .int .i64 0, .float .f64 0, .string ⟨#[]⟩, .slice none 0 0, .int .i64 0, .int .i64 0, .int .i64 0, .int .i64 0, .slice none 0 0, .slice none 0 0]) rfl)
      have hlt2 : wr.heap.size < W2.heap.size := hK1.lt
      clear hW2 hrange
      have hsz0 := HL.out.sz
      have hrm := HL.out.room
      have l3 := HL.out.blk.ext hE1
      have l5 := HL.out.out.ext hE1
      have l6 := HRes.out.ext hE1
      have l7 := HBox.out.ext hE1
      obtain ⟨t0, tf⟩ := l3.c1
      have q1 : W2.cell? ⟨p, 9, none⟩ = some kv := l6.cell 9
      have hth : W2.there (w.heap.size + 1) 0 11 := l5.there rfl
      have hrg : W2.rangeAt wr.heap.size 0 [.bool kt.sc.nul, .int .i64 kt.sc.n, .float .f64 kt.sc.f, .string kt.sc.text, .slice kA kt.sc.data.length kc, .int .i64 kt.sc.scale, .int .i64 kt.sc.months, .int .i64 kt.sc.days, .int .i64 kt.sc.nanos, .slice kA1 kt.keys.length kc1, .slice kA2 kt.kids.length kc2] := Blk.range hK1
      have hk1b : Blk W2 wr.heap.size 30 #[.bool kt.sc.nul, .int .i64 kt.sc.n, .float .f64 kt.sc.f, .string kt.sc.text, .slice kA kt.sc.data.length kc, .int .i64 kt.sc.scale, .int .i64 kt.sc.months, .int .i64 kt.sc.days, .int .i64 kt.sc.nanos, .slice kA1 kt.keys.length kc1, .slice kA2 kt.kids.length kc2] := hK1
      have HE1 := Lib.hid hE1
      have Hl3 := Lib.hid l3
      have Hl5 := Lib.hid l5
      have Hl6 := Lib.hid l6
      have Hl7 := Lib.hid l7
      have HK1 := Lib.hid hk1b
      clear hE1 hK1 hk1b l3 l5 l6 l7
      go_upto_region 8 with fail
      by_cases hr1 : r1 < 0
      ·go_wp2_with (refine wpList_store_mid (op := ⟨none, .store 39 _ _, _, _, _, _⟩) rfl 39 _ _ rfl (w.heap.size + 1) 0 #[.bool true, .int .i64 0, .float .f64 0, .string ⟨#[]⟩, .slice none 0 0, .int .i64 0, .int .i64 0, .int .i64 0, .int .i64 0, .slice none 0 0, .slice none 0 0] (by rfl) (by rfl) hth hi39 (by simp [Value.oneCell']) ?_)
       generalize hWf : World.setCells _ _ _ _ = Wf
       have hbad := bad_end (X := X) (R := R) (d := d + 1) (V := V) (r := r) (w := w) (wr := W2) (n0 := w.heap.size + 1) (by omega) (by omega) Hl3.out (HL.out.one.trans (One.of_ext HE1.out R)) ⟨by omega, by omega⟩ (.inl (by omega))
       have hob : Blk Wf (w.heap.size + 1) 39 #[.bool true, .int .i64 0, .float .f64 0, .string ⟨#[]⟩, .slice none 0 0, .int .i64 0, .int .i64 0, .int .i64 0, .int .i64 0, .slice none 0 0, .slice none 0 0] := by rw [← hWf]; exact Blk.setCells Hl5.out rfl
       have hWf' : W2.setCells (w.heap.size + 1) 0 [.bool true, .int .i64 0, .float .f64 0, .string ⟨#[]⟩, .slice none 0 0, .int .i64 0, .int .i64 0, .int .i64 0, .int .i64 0, .slice none 0 0, .slice none 0 0] = Wf := hWf
       rw [hWf'] at hbad
       clear hWf hWf'
       obtain ⟨z0, z1, z2, z3, z4, z5, z6, z7, z8, z9, z10⟩ := hob.c11
       exact bodyPost_ret (by simp [results, Tryz.results20, go_sem, z0, z1, z2, z3, z4, z5, z6, z7, z8, z9, z10]) rfl hbad
      ·go_upto_region 10 with fail
       have hX'b : ∀ b, (XX2 X w.heap.size kv (.slice none 0 0)) b → b < W2.drew.heap.size := fun b hb => by
        show b < W2.heap.size
        rcases hb with hb | hb | hb | hb | hb
        ·have := HXb.out b hb
         omega
        ·have := (own_block HL.out.h1.own hb).2
         omega
        ·have := (own_block HL.out.h2.own hb).2
         omega
        ·omega
        ·omega
       have hkid' : VlAt (XX2 X w.heap.size kv (.slice none 0 0)) m W2.drew [.bool kt.sc.nul, .int .i64 kt.sc.n, .float .f64 kt.sc.f, .string kt.sc.text, .slice kA kt.sc.data.length kc, .int .i64 kt.sc.scale, .int .i64 kt.sc.months, .int .i64 kt.sc.days, .int .i64 kt.sc.nanos, .slice kA1 kt.keys.length kc1, .slice kA2 kt.kids.length kc2] kt :=
        VlAt.onx ((HL.out.one.trans (One.of_ext HE1.out R)).drew.onx (.inl HXR.out : (XX2 X w.heap.size kv (.slice none 0 0)) R)) _ _ _ (VlAt.weak (fun b hb => by
         rcases hb with hb | hb | hb | hb | hb
         ·exact .inl hb
         ·exact .inr (by have := (own_block HL.out.h1.own hb).1; omega)
         ·exact .inr (by have := (own_block HL.out.h2.own hb).1; omega)
         ·exact .inr (by omega)
         ·exact .inr (by omega)) _ _ _ Hkid.out)
       have hcall : Calls Tryz.prog 20 #[.agg #[.bool kt.sc.nul, .int .i64 kt.sc.n, .float .f64 kt.sc.f, .string kt.sc.text, .slice kA kt.sc.data.length kc, .int .i64 kt.sc.scale, .int .i64 kt.sc.months, .int .i64 kt.sc.days, .int .i64 kt.sc.nanos, .slice kA1 kt.keys.length kc1, .slice kA2 kt.kids.length kc2], .int .i64 d, .pointer (some ⟨R, 0, none⟩)] W2.drew (APost (XX2 X w.heap.size kv (.slice none 0 0)) R d r1 kt W2.drew) :=
        IH.out (by omega) (XX2 X w.heap.size kv (.slice none 0 0)) m _ kt R r1 W2.drew (.inl HXR.out) hX'b hkid' Hl3.out.drew ⟨by omega, by omega⟩
       have Hcall := Lib.hid hcall
       clear hcall hkid' hX'b
       have hne2 : kv.ownBlock ≠ some p := fun e => by have := (own_block HL.out.h1.own e).1; omega
       have Hne2 := Lib.hid hne2
       have hne3 : kv.ownBlock ≠ some w.heap.size := fun e => by have := (own_block HL.out.h1.own e).1; omega
       have Hne3 := Lib.hid hne3
       have hi5 : i ≤ 5000 := by omega
       have hwd : IntKind.i64.wrap (d : Int) = d := IntWalk.i64_in _ (by omega)
       clear hne2 hne3 hth t0 tf
       refine wp_region_K (fun w' => w'.cell? ⟨p, 9, none⟩ = some kv ∧ w'.rangeAt wr.heap.size 0 [.bool kt.sc.nul, .int .i64 kt.sc.n, .float .f64 kt.sc.f, .string kt.sc.text, .slice kA kt.sc.data.length kc, .int .i64 kt.sc.scale, .int .i64 kt.sc.months, .int .i64 kt.sc.days, .int .i64 kt.sc.nanos, .slice kA1 kt.keys.length kc1, .slice kA2 kt.kids.length kc2]) (ix [1, 2, 6, 7]) 11 [false, false, false, false, false, false, false, false, false, false, false] (by kernel_rfl) rfl rfl ?_
       refine fV 0 (v := ?v10x0) rfl (by rfl) ?y10x0 ?_
       case y10x0 => intro w; go_simp; with_reducible rfl
       simp only [aP, aN, aT, aZ, aS]
       refine fV 3 (v := ?v10x3) rfl (by rfl) ?y10x3 ?_
       case y10x3 => intro w; go_simp; with_reducible rfl
       simp only [aP, aN, aT, aZ, aS]
       refine fV 5 (v := ?v10x5) rfl (by rfl) ?y10x5 ?_
       case y10x5 => intro w; go_simp; with_reducible rfl
       simp only [aP, aN, aT, aZ, aS]
       refine fV 4 (v := ?v10x4) rfl (by rfl) ?y10x4 ?_
       case y10x4 => intro w; go_simp; with_reducible rfl
       simp only [aP, aN, aT, aZ, aS]
       refine tV 1 (ix [8, 9, 10]) (v := ?v10x1) rfl ⟨q1, hrg⟩ (by rfl) ?y10x1 ?_
       case y10x1 => rintro w ⟨hs0, hs1⟩; go_simp; with_reducible rfl
       simp only [aP, aN, aT, aZ, aS]
       refine tG 2 (rg 6 10) rfl ⟨q1, hrg⟩ (yieldsIf_load_mid (by rfl) 30 _ rfl wr.heap.size 0 (by rfl) [.bool kt.sc.nul, .int .i64 kt.sc.n, .float .f64 kt.sc.f, .string kt.sc.text, .slice kA kt.sc.data.length kc, .int .i64 kt.sc.scale, .int .i64 kt.sc.months, .int .i64 kt.sc.days, .int .i64 kt.sc.nanos, .slice kA1 kt.keys.length kc1, .slice kA2 kt.kids.length kc2] _ (fun w' h => h.2) Tryz.underlying30 rfl hi30) ?_
       simp only [aP, aN, aT, aZ, aS]
       refine wpAnyK_one 6 (by kernel_rfl) rfl rfl (fun K' hK => ?_)
       go_simp
       refine Hcall.out.mono ?_
       rintro e w2 ⟨v2, T2, r2, rfl, ht2, hc2, hr2, hR2, ho2⟩
       obtain ⟨zA, zc, zA1, zc1, zA2, zc2, rfl, _⟩ := ht2.form
       simp only [vcells]
       have hz2' : W2.heap.size ≤ w2.heap.size := ho2.2.2.2.1
       have hS2 : w2.cell? ⟨p, 9, none⟩ = some kv ∧ w2.rangeAt wr.heap.size 0 [.bool kt.sc.nul, .int .i64 kt.sc.n, .float .f64 kt.sc.f, .string kt.sc.text, .slice kA kt.sc.data.length kc, .int .i64 kt.sc.scale, .int .i64 kt.sc.months, .int .i64 kt.sc.days, .int .i64 kt.sc.nanos, .slice kA1 kt.keys.length kc1, .slice kA2 kt.kids.length kc2] :=
        ⟨(ho2.blk Hl6.out.drew (by omega)).cell 9, Blk.range (ho2.blk HK1.out.drew (by omega))⟩
       clear q1 hrg
       refine hK.out _ _ (fun _ => hS2) ?_
       clear hK K'
       simp only [aP, aN, aT, aZ, aS]
       refine wpAnyK_one 7 (by kernel_rfl) rfl rfl (fun K' hK => ?_)
       go_simp
       refine hK.out _ _ (fun _ => ⟨((Ext.refl w2).alloc _).cellS hS2.1, World.rangeAt_alloc hS2.2 _⟩) ?_
       clear hK K'
       simp only [aP, aN, aT, aZ, aS]
       refine wpAnyK_one 8 (by kernel_rfl) rfl rfl (fun K' hK => ?_)
       have hown2 := own_one HL.out.h1.own ((One.of_ext HE1.out R).trans (One.trans (One.drew (One.refl W2 R)) ho2)) (by omega)
       refine wp_append_lies _ _ _ _ (by rfl) (w.heap.size + 3) 39 i0 _ 11 144 Tryz.underlying37 hi0 hz0 hz1 hz2 rfl (by omega) kv i cs (by rfl) (hown2.alloc _) ⟨w2.heap.size, 0, none⟩ 1 1 [.bool T2.sc.nul, .int .i64 T2.sc.n, .float .f64 T2.sc.f, .string T2.sc.text, .slice zA T2.sc.data.length zc, .int .i64 T2.sc.scale, .int .i64 T2.sc.months, .int .i64 T2.sc.days, .int .i64 T2.sc.nanos, .slice zA1 T2.keys.length zc1, .slice zA2 T2.kids.length zc2] (by rfl) (by rfl)
        (World.news_of_block (heap_alloc_new w2 _)) (by simp [Value.oneCell']) (by omega) (by unfold maxLen; omega) (by omega) (by simp; omega) (w2.heap.size + 1) (by simp) ?_
       intro gg cap1 w3 hown3 hgrow hat hltg
       obtain ⟨hres3, hres4⟩ := res_step (off := 9) (u := .slice (some ⟨gg, 0, none⟩) (i + 1) cap1) Hl6.out.drew ho2 (by omega) hgrow Hne2.out
       obtain ⟨hbox3, _⟩ := res_step (off := 0) (u := .int .i64 0) Hl7.out.drew ho2 (by omega) hgrow Hne3.out
       have k0 : w3.cell? ⟨p, 9, none⟩ = some kv := hres3.cell 9
       have f0 : w3.frozen? ⟨p, 9, none⟩ = false := hres3.frozen 9
       have hp2 : p = w.heap.size + 2 := Hp.out
       have hstep := acore_step (off := 9) (u := .slice (some ⟨gg, 0, none⟩) (i + 1) cap1) rfl HXR.out HXb.out HL.out Hkt.out HE1.out ho2 hR2 hr2 ht2 rfl hc2.2 hown3 hgrow hat
       rw [← hp2] at hstep
       have Hstep := Lib.hid hstep
       have Hres4 := Lib.hid hres4
       have Hbox4 := Lib.hid (hbox3.off (b := p) (o := 9) (by omega) (.slice (some ⟨gg, 0, none⟩) (i + 1) cap1))
       clear hown3 hgrow hat hown2 ht2 hc2 ho2 hR2 hS2 hres3 hres4 hbox3 hstep hp2
       refine hK.out _ _ (fun h => absurd h (by decide)) ?_
       clear hK K'
       simp only [aP, aN, aT, aZ, aS]
       refine fV 9 (v := ?v10x9) rfl (by rfl) ?y10x9 ?_
       case y10x9 => intro w; go_simp; with_reducible rfl
       simp only [aP, aN, aT, aZ, aS]
       refine wpAnyK_one 10 (by kernel_rfl) rfl rfl (fun K' hK => ?_)
       go_simp
       refine hK.out _ _ (fun h => absurd h (by decide)) ?_
       clear hK K'
       simp only [aP, aN, aT, aZ, aS]
       refine wpAnyK_done (by kernel_rfl) ?_ _
       go_wp2_with fail
       exact ⟨⟨i + 1, r2, _, _, _, by omega, rfl, Hstep.out, Hres4.out, Hbox4.out⟩, by simp [intOf]; omega⟩
     ·obtain rfl : i = V.keys.length := by omega
      obtain ⟨kB, kcB, hkB⟩ := own_slice2 HL.out.h1.own
      subst hkB
      obtain ⟨wq, hwq⟩ : ∃ x, x = wr := ⟨wr, rfl⟩
      subst hwq
      obtain ⟨d0, d1, d2, d3, d4, d5, d6, d7, d8, d9, d10⟩ := HBox.out.c11
      go_wp2_with fail
      clear d0 d1 d2 d3 d4 d5 d6 d7 d8 d9 d10
      go_loopw [79] (fun v wr => ∃ (i : Nat) (r3 : Int) (ks2 : List Vl) (kv : Value) (cs2 : List Value), i ≤ V.kids.length ∧ v = .int .i64 i ∧ ACore X R (d + 1) w.heap.size V.keys V.kids w wr r V.keys.length r3 ks (.slice kB V.keys.length kcB) cs i ks2 kv cs2 ∧ Blk wr p 39 #[.bool V.sc.nul, .int .i64 V.sc.n, .float .f64 V.sc.f, .string V.sc.text, .slice A V.sc.data.length c, .int .i64 V.sc.scale, .int .i64 V.sc.months, .int .i64 V.sc.days, .int .i64 V.sc.nanos, .slice kB V.keys.length kcB, kv] ∧ Blk wr w.heap.size 30 #[.bool V.sc.nul, .int .i64 V.sc.n, .float .f64 V.sc.f, .string V.sc.text, .slice A V.sc.data.length c, .int .i64 V.sc.scale, .int .i64 V.sc.months, .int .i64 V.sc.days, .int .i64 V.sc.nanos, .slice A1 V.keys.length c1, .slice A2 V.kids.length c2]) (fun v _ => V.kids.length - (intOf v).toNat)
      case atStart => exact ⟨0, r1, [], _, [], Nat.zero_le _, rfl, HL.out, HRes.out, HBox.out⟩
      case round =>
       clear HL HRes HBox hile hlti
       obtain ⟨i, r1, ks2, kv, cs, hile, rfl, hL, hres, hbox⟩ := hrel
       have HL := Lib.hid hL
       have HRes := Lib.hid hres
       have HBox := Lib.hid hbox
       clear hL hres hbox
       by_cases hlti : (i : Int) < V.kids.length
       ·skip
        have hi' : i < V.kids.length := by omega
        obtain ⟨cs0, hcs0, hseg, hrow⟩ := Hk2.out
        have hkt : V.kids[i]? = some V.kids[i] := List.getElem?_eq_getElem hi'
        have hkid := hrow i _ hkt
        generalize V.kids[i] = kt at hkt hkid
        obtain ⟨kA, kc, kA1, kc1, kA2, kc2, hkv, _⟩ := hkid.form
        obtain ⟨b, o, hA, hb, hbX, hcell⟩ := row_cells hseg hkv rfl
        subst hA
        rw [hkv] at hkid
        have hbR : b ≠ R := fun e => hbX (e ▸ HXR.out)
        have hrange : wr.rangeAt b (o + i * 11) [.bool kt.sc.nul, .int .i64 kt.sc.n, .float .f64 kt.sc.f, .string kt.sc.text, .slice kA kt.sc.data.length kc, .int .i64 kt.sc.scale, .int .i64 kt.sc.months, .int .i64 kt.sc.days, .int .i64 kt.sc.nanos, .slice kA1 kt.keys.length kc1, .slice kA2 kt.kids.length kc2] := fun j u hu => (HL.out.one.cell hb hbR).trans (hcell j u hu)
        have Hkt := Lib.hid hkt
        have Hkid := Lib.hid hkid
        clear hkt hkid hkv hcell hseg hrow hcs0
        go_upto_region 14 with fail
        refine wp_region_lit ?_
        iterate 1 (refine wpList_plain rfl (fun K hK => ?_); go_simp; refine hK _ _ ?_; clear hK K; try simp only [aP, aN, aT, aZ, aS])
        refine wpList_load_mid rfl 30 _ rfl b (o + i * 11) (by rfl) [.bool kt.sc.nul, .int .i64 kt.sc.n, .float .f64 kt.sc.f, .string kt.sc.text, .slice kA kt.sc.data.length kc, .int .i64 kt.sc.scale, .int .i64 kt.sc.months, .int .i64 kt.sc.days, .int .i64 kt.sc.nanos, .slice kA1 kt.keys.length kc1, .slice kA2 kt.kids.length kc2] _ hrange Tryz.underlying30 rfl hi30 ?_
        simp only [aP, aN, aT, aZ, aS]
        iterate 1 (refine wpList_plain rfl (fun K hK => ?_); go_simp; refine hK _ _ ?_; clear hK K; try simp only [aP, aN, aT, aZ, aS])
        refine wpList_store_mid rfl 30 _ _ rfl wr.heap.size 0 #[.bool kt.sc.nul, .int .i64 kt.sc.n, .float .f64 kt.sc.f, .string kt.sc.text, .slice kA kt.sc.data.length kc, .int .i64 kt.sc.scale, .int .i64 kt.sc.months, .int .i64 kt.sc.days, .int .i64 kt.sc.nanos, .slice kA1 kt.keys.length kc1, .slice kA2 kt.kids.length kc2] (by rfl) (by rfl) ((Blk.new wr 30 #[.bool false, .int .i64 0, .float .f64 0, .string ⟨#[]⟩, .slice none 0 0, .int .i64 0, .int .i64 0, .int .i64 0, .int .i64 0, .slice none 0 0, .slice none 0 0]).there rfl) hi30 (by simp [Value.oneCell']) ?_
        generalize hW2 : World.setCells _ wr.heap.size _ _ = W2
        have hE1 : Ext wr W2 := hW2 ▸ setCells_ext (Nat.le_refl _) _ _ _ ((Ext.refl wr).alloc _)
        have hK1 : Blk W2 wr.heap.size 30 #[.bool kt.sc.nul, .int .i64 kt.sc.n, .float .f64 kt.sc.f, .string kt.sc.text, .slice kA kt.sc.data.length kc, .int .i64 kt.sc.scale, .int .i64 kt.sc.months, .int .i64 kt.sc.days, .int .i64 kt.sc.nanos, .slice kA1 kt.keys.length kc1, .slice kA2 kt.kids.length kc2] := hW2 ▸ (Blk.setCells (Blk.new wr 30 #[.bool false, .int .i64 0, .float .f64 0, .string ⟨#[]⟩, .slice none 0 0, .int .i64 0, .int .i64 0, .int .i64 0, .int .i64 0, .slice none 0 0, .slice none 0 0]) rfl)
        have hlt2 : wr.heap.size < W2.heap.size := hK1.lt
        clear hW2 hrange
        have hsz0 := HL.out.sz
        have hrm := HL.out.room
        have l3 := HL.out.blk.ext hE1
        have l5 := HL.out.out.ext hE1
        have l6 := HRes.out.ext hE1
        have l7 := HBox.out.ext hE1
        obtain ⟨t0, tf⟩ := l3.c1
        have q1 : W2.cell? ⟨p, 10, none⟩ = some kv := l6.cell 10
        have hth : W2.there (w.heap.size + 1) 0 11 := l5.there rfl
        have hrg : W2.rangeAt wr.heap.size 0 [.bool kt.sc.nul, .int .i64 kt.sc.n, .float .f64 kt.sc.f, .string kt.sc.text, .slice kA kt.sc.data.length kc, .int .i64 kt.sc.scale, .int .i64 kt.sc.months, .int .i64 kt.sc.days, .int .i64 kt.sc.nanos, .slice kA1 kt.keys.length kc1, .slice kA2 kt.kids.length kc2] := Blk.range hK1
        have hk1b : Blk W2 wr.heap.size 30 #[.bool kt.sc.nul, .int .i64 kt.sc.n, .float .f64 kt.sc.f, .string kt.sc.text, .slice kA kt.sc.data.length kc, .int .i64 kt.sc.scale, .int .i64 kt.sc.months, .int .i64 kt.sc.days, .int .i64 kt.sc.nanos, .slice kA1 kt.keys.length kc1, .slice kA2 kt.kids.length kc2] := hK1
        have HE1 := Lib.hid hE1
        have Hl3 := Lib.hid l3
        have Hl5 := Lib.hid l5
        have Hl6 := Lib.hid l6
        have Hl7 := Lib.hid l7
        have HK1 := Lib.hid hk1b
        clear hE1 hK1 hk1b l3 l5 l6 l7
        go_upto_region 15 with fail
        by_cases hr1 : r1 < 0
        ·go_wp2_with (refine wpList_store_mid (op := ⟨none, .store 39 _ _, _, _, _, _⟩) rfl 39 _ _ rfl (w.heap.size + 1) 0 #[.bool true, .int .i64 0, .float .f64 0, .string ⟨#[]⟩, .slice none 0 0, .int .i64 0, .int .i64 0, .int .i64 0, .int .i64 0, .slice none 0 0, .slice none 0 0] (by rfl) (by rfl) hth hi39 (by simp [Value.oneCell']) ?_)
         generalize hWf : World.setCells _ _ _ _ = Wf
         have hbad := bad_end (X := X) (R := R) (d := d + 1) (V := V) (r := r) (w := w) (wr := W2) (n0 := w.heap.size + 1) (by omega) (by omega) Hl3.out (HL.out.one.trans (One.of_ext HE1.out R)) ⟨by omega, by omega⟩ (.inl (by omega))
         have hob : Blk Wf (w.heap.size + 1) 39 #[.bool true, .int .i64 0, .float .f64 0, .string ⟨#[]⟩, .slice none 0 0, .int .i64 0, .int .i64 0, .int .i64 0, .int .i64 0, .slice none 0 0, .slice none 0 0] := by rw [← hWf]; exact Blk.setCells Hl5.out rfl
         have hWf' : W2.setCells (w.heap.size + 1) 0 [.bool true, .int .i64 0, .float .f64 0, .string ⟨#[]⟩, .slice none 0 0, .int .i64 0, .int .i64 0, .int .i64 0, .int .i64 0, .slice none 0 0, .slice none 0 0] = Wf := hWf
         rw [hWf'] at hbad
         clear hWf hWf'
         obtain ⟨z0, z1, z2, z3, z4, z5, z6, z7, z8, z9, z10⟩ := hob.c11
         exact bodyPost_ret (by simp [results, Tryz.results20, go_sem, z0, z1, z2, z3, z4, z5, z6, z7, z8, z9, z10]) rfl hbad
        ·go_upto_region 17 with fail
         have hX'b : ∀ b, (XX2 X w.heap.size (.slice kB V.keys.length kcB) kv) b → b < W2.drew.heap.size := fun b hb => by
          show b < W2.heap.size
          rcases hb with hb | hb | hb | hb | hb
          ·have := HXb.out b hb
           omega
          ·have := (own_block HL.out.h1.own hb).2
           omega
          ·have := (own_block HL.out.h2.own hb).2
           omega
          ·omega
          ·omega
         have hkid' : VlAt (XX2 X w.heap.size (.slice kB V.keys.length kcB) kv) m W2.drew [.bool kt.sc.nul, .int .i64 kt.sc.n, .float .f64 kt.sc.f, .string kt.sc.text, .slice kA kt.sc.data.length kc, .int .i64 kt.sc.scale, .int .i64 kt.sc.months, .int .i64 kt.sc.days, .int .i64 kt.sc.nanos, .slice kA1 kt.keys.length kc1, .slice kA2 kt.kids.length kc2] kt :=
          VlAt.onx ((HL.out.one.trans (One.of_ext HE1.out R)).drew.onx (.inl HXR.out : (XX2 X w.heap.size (.slice kB V.keys.length kcB) kv) R)) _ _ _ (VlAt.weak (fun b hb => by
           rcases hb with hb | hb | hb | hb | hb
           ·exact .inl hb
           ·exact .inr (by have := (own_block HL.out.h1.own hb).1; omega)
           ·exact .inr (by have := (own_block HL.out.h2.own hb).1; omega)
           ·exact .inr (by omega)
           ·exact .inr (by omega)) _ _ _ Hkid.out)
         have hcall : Calls Tryz.prog 20 #[.agg #[.bool kt.sc.nul, .int .i64 kt.sc.n, .float .f64 kt.sc.f, .string kt.sc.text, .slice kA kt.sc.data.length kc, .int .i64 kt.sc.scale, .int .i64 kt.sc.months, .int .i64 kt.sc.days, .int .i64 kt.sc.nanos, .slice kA1 kt.keys.length kc1, .slice kA2 kt.kids.length kc2], .int .i64 d, .pointer (some ⟨R, 0, none⟩)] W2.drew (APost (XX2 X w.heap.size (.slice kB V.keys.length kcB) kv) R d r1 kt W2.drew) :=
          IH.out (by omega) (XX2 X w.heap.size (.slice kB V.keys.length kcB) kv) m _ kt R r1 W2.drew (.inl HXR.out) hX'b hkid' Hl3.out.drew ⟨by omega, by omega⟩
         have Hcall := Lib.hid hcall
         clear hcall hkid' hX'b
         have hne2 : kv.ownBlock ≠ some p := fun e => by have := (own_block HL.out.h2.own e).1; omega
         have Hne2 := Lib.hid hne2
         have hne3 : kv.ownBlock ≠ some w.heap.size := fun e => by have := (own_block HL.out.h2.own e).1; omega
         have Hne3 := Lib.hid hne3
         have hi5 : i ≤ 5000 := by omega
         have hwd : IntKind.i64.wrap (d : Int) = d := IntWalk.i64_in _ (by omega)
         clear hne2 hne3 hth t0 tf
         refine wp_region_K (fun w' => w'.cell? ⟨p, 10, none⟩ = some kv ∧ w'.rangeAt wr.heap.size 0 [.bool kt.sc.nul, .int .i64 kt.sc.n, .float .f64 kt.sc.f, .string kt.sc.text, .slice kA kt.sc.data.length kc, .int .i64 kt.sc.scale, .int .i64 kt.sc.months, .int .i64 kt.sc.days, .int .i64 kt.sc.nanos, .slice kA1 kt.keys.length kc1, .slice kA2 kt.kids.length kc2]) (ix [1, 2, 6, 7]) 11 [false, false, false, false, false, false, false, false, false, false, false] (by kernel_rfl) rfl rfl ?_
         refine fV 0 (v := ?v17x0) rfl (by rfl) ?y17x0 ?_
         case y17x0 => intro w; go_simp; with_reducible rfl
         simp only [aP, aN, aT, aZ, aS]
         refine fV 3 (v := ?v17x3) rfl (by rfl) ?y17x3 ?_
         case y17x3 => intro w; go_simp; with_reducible rfl
         simp only [aP, aN, aT, aZ, aS]
         refine fV 5 (v := ?v17x5) rfl (by rfl) ?y17x5 ?_
         case y17x5 => intro w; go_simp; with_reducible rfl
         simp only [aP, aN, aT, aZ, aS]
         refine fV 4 (v := ?v17x4) rfl (by rfl) ?y17x4 ?_
         case y17x4 => intro w; go_simp; with_reducible rfl
         simp only [aP, aN, aT, aZ, aS]
         refine tV 1 (ix [8, 9, 10]) (v := ?v17x1) rfl ⟨q1, hrg⟩ (by rfl) ?y17x1 ?_
         case y17x1 => rintro w ⟨hs0, hs1⟩; go_simp; with_reducible rfl
         simp only [aP, aN, aT, aZ, aS]
         refine tG 2 (rg 6 10) rfl ⟨q1, hrg⟩ (yieldsIf_load_mid (by rfl) 30 _ rfl wr.heap.size 0 (by rfl) [.bool kt.sc.nul, .int .i64 kt.sc.n, .float .f64 kt.sc.f, .string kt.sc.text, .slice kA kt.sc.data.length kc, .int .i64 kt.sc.scale, .int .i64 kt.sc.months, .int .i64 kt.sc.days, .int .i64 kt.sc.nanos, .slice kA1 kt.keys.length kc1, .slice kA2 kt.kids.length kc2] _ (fun w' h => h.2) Tryz.underlying30 rfl hi30) ?_
         simp only [aP, aN, aT, aZ, aS]
         refine wpAnyK_one 6 (by kernel_rfl) rfl rfl (fun K' hK => ?_)
         go_simp
         refine Hcall.out.mono ?_
         rintro e w2 ⟨v2, T2, r2, rfl, ht2, hc2, hr2, hR2, ho2⟩
         obtain ⟨zA, zc, zA1, zc1, zA2, zc2, rfl, _⟩ := ht2.form
         simp only [vcells]
         have hz2' : W2.heap.size ≤ w2.heap.size := ho2.2.2.2.1
         have hS2 : w2.cell? ⟨p, 10, none⟩ = some kv ∧ w2.rangeAt wr.heap.size 0 [.bool kt.sc.nul, .int .i64 kt.sc.n, .float .f64 kt.sc.f, .string kt.sc.text, .slice kA kt.sc.data.length kc, .int .i64 kt.sc.scale, .int .i64 kt.sc.months, .int .i64 kt.sc.days, .int .i64 kt.sc.nanos, .slice kA1 kt.keys.length kc1, .slice kA2 kt.kids.length kc2] :=
          ⟨(ho2.blk Hl6.out.drew (by omega)).cell 10, Blk.range (ho2.blk HK1.out.drew (by omega))⟩
         clear q1 hrg
         refine hK.out _ _ (fun _ => hS2) ?_
         clear hK K'
         simp only [aP, aN, aT, aZ, aS]
         refine wpAnyK_one 7 (by kernel_rfl) rfl rfl (fun K' hK => ?_)
         go_simp
         refine hK.out _ _ (fun _ => ⟨((Ext.refl w2).alloc _).cellS hS2.1, World.rangeAt_alloc hS2.2 _⟩) ?_
         clear hK K'
         simp only [aP, aN, aT, aZ, aS]
         refine wpAnyK_one 8 (by kernel_rfl) rfl rfl (fun K' hK => ?_)
         have hown2 := own_one HL.out.h2.own ((One.of_ext HE1.out R).trans (One.trans (One.drew (One.refl W2 R)) ho2)) (by omega)
         refine wp_append_lies _ _ _ _ (by rfl) (w.heap.size + 3) 39 i0 _ 11 144 Tryz.underlying37 hi0 hz0 hz1 hz2 rfl (by omega) kv i cs (by rfl) (hown2.alloc _) ⟨w2.heap.size, 0, none⟩ 1 1 [.bool T2.sc.nul, .int .i64 T2.sc.n, .float .f64 T2.sc.f, .string T2.sc.text, .slice zA T2.sc.data.length zc, .int .i64 T2.sc.scale, .int .i64 T2.sc.months, .int .i64 T2.sc.days, .int .i64 T2.sc.nanos, .slice zA1 T2.keys.length zc1, .slice zA2 T2.kids.length zc2] (by rfl) (by rfl)
          (World.news_of_block (heap_alloc_new w2 _)) (by simp [Value.oneCell']) (by omega) (by unfold maxLen; omega) (by omega) (by simp; omega) (w2.heap.size + 1) (by simp) ?_
         intro gg cap1 w3 hown3 hgrow hat hltg
         obtain ⟨hres3, hres4⟩ := res_step (off := 10) (u := .slice (some ⟨gg, 0, none⟩) (i + 1) cap1) Hl6.out.drew ho2 (by omega) hgrow Hne2.out
         obtain ⟨hbox3, _⟩ := res_step (off := 0) (u := .int .i64 0) Hl7.out.drew ho2 (by omega) hgrow Hne3.out
         have k0 : w3.cell? ⟨p, 10, none⟩ = some kv := hres3.cell 10
         have f0 : w3.frozen? ⟨p, 10, none⟩ = false := hres3.frozen 10
         have hp2 : p = w.heap.size + 2 := Hp.out
         have hstep := (acore_step (off := 10) (u := .slice (some ⟨gg, 0, none⟩) (i + 1) cap1) rfl HXR.out HXb.out HL.out.swap Hkt.out HE1.out ho2 hR2 hr2 (by rw [XX2.swap]; exact ht2) rfl hc2.2 hown3 hgrow hat).swap
         rw [← hp2] at hstep
         have Hstep := Lib.hid hstep
         have Hres4 := Lib.hid hres4
         have Hbox4 := Lib.hid (hbox3.off (b := p) (o := 10) (by omega) (.slice (some ⟨gg, 0, none⟩) (i + 1) cap1))
         clear hown3 hgrow hat hown2 ht2 hc2 ho2 hR2 hS2 hres3 hres4 hbox3 hstep hp2
         refine hK.out _ _ (fun h => absurd h (by decide)) ?_
         clear hK K'
         simp only [aP, aN, aT, aZ, aS]
         refine fV 9 (v := ?v17x9) rfl (by rfl) ?y17x9 ?_
         case y17x9 => intro w; go_simp; with_reducible rfl
         simp only [aP, aN, aT, aZ, aS]
         refine wpAnyK_one 10 (by kernel_rfl) rfl rfl (fun K' hK => ?_)
         go_simp
         refine hK.out _ _ (fun h => absurd h (by decide)) ?_
         clear hK K'
         simp only [aP, aN, aT, aZ, aS]
         refine wpAnyK_done (by kernel_rfl) ?_ _
         go_wp2_with fail
         exact ⟨⟨i + 1, r2, _, _, _, by omega, rfl, Hstep.out, Hres4.out, Hbox4.out⟩, by simp [intOf]; omega⟩
       ·obtain rfl : i = V.kids.length := by omega
        obtain ⟨kD, kcD, hkD⟩ := own_slice2 HL.out.h2.own
        subst hkD
        have hsz0 := HL.out.sz
        have hrm := HL.out.room
        obtain ⟨t0, tf⟩ := HL.out.blk.c1
        have hth : wr.there (w.heap.size + 1) 0 11 := HL.out.out.there rfl
        by_cases hr1 : r1 < 0
        ·go_wp2_with (refine wpList_store_mid (op := ⟨none, .store 39 _ _, _, _, _, _⟩) rfl 39 _ _ rfl (w.heap.size + 1) 0 #[.bool true, .int .i64 0, .float .f64 0, .string ⟨#[]⟩, .slice none 0 0, .int .i64 0, .int .i64 0, .int .i64 0, .int .i64 0, .slice none 0 0, .slice none 0 0] (by rfl) (by rfl) hth hi39 (by simp [Value.oneCell']) ?_)
         generalize hWf : World.setCells _ _ _ _ = Wf
         have hbad := bad_end (X := X) (R := R) (d := d + 1) (V := V) (r := r) (w := w) (wr := wr) (n0 := w.heap.size + 1) (by omega) (by omega) HL.out.blk HL.out.one ⟨by omega, by omega⟩ (.inl (by omega))
         have hob : Blk Wf (w.heap.size + 1) 39 #[.bool true, .int .i64 0, .float .f64 0, .string ⟨#[]⟩, .slice none 0 0, .int .i64 0, .int .i64 0, .int .i64 0, .int .i64 0, .slice none 0 0, .slice none 0 0] := by rw [← hWf]; exact Blk.setCells HL.out.out rfl
         have hWf' : wr.setCells (w.heap.size + 1) 0 [.bool true, .int .i64 0, .float .f64 0, .string ⟨#[]⟩, .slice none 0 0, .int .i64 0, .int .i64 0, .int .i64 0, .int .i64 0, .slice none 0 0, .slice none 0 0] = Wf := hWf
         rw [hWf'] at hbad
         clear hWf hWf'
         obtain ⟨z0, z1, z2, z3, z4, z5, z6, z7, z8, z9, z10⟩ := hob.c11
         exact bodyPost_ret (by simp [results, Tryz.results20, go_sem, z0, z1, z2, z3, z4, z5, z6, z7, z8, z9, z10]) rfl hbad
        ·go_upto_region 21 with fail
         refine wp_region_lit ?_
         refine wpList_load_mid rfl 39 _ rfl p 0 (by rfl) [.bool V.sc.nul, .int .i64 V.sc.n, .float .f64 V.sc.f, .string V.sc.text, .slice A V.sc.data.length c, .int .i64 V.sc.scale, .int .i64 V.sc.months, .int .i64 V.sc.days, .int .i64 V.sc.nanos, .slice kB V.keys.length kcB, .slice kD V.kids.length kcD] _ (Blk.range HRes.out) Tryz.underlying39 rfl hi39 ?_
         simp only [aP, aN, aT, aZ, aS]
         refine wpList_store_mid rfl 39 _ _ rfl (w.heap.size + 1) 0 #[.bool V.sc.nul, .int .i64 V.sc.n, .float .f64 V.sc.f, .string V.sc.text, .slice A V.sc.data.length c, .int .i64 V.sc.scale, .int .i64 V.sc.months, .int .i64 V.sc.days, .int .i64 V.sc.nanos, .slice kB V.keys.length kcB, .slice kD V.kids.length kcD] (by rfl) (by rfl) hth hi39 (by simp [Value.oneCell']) ?_
         generalize hWf : World.setCells wr _ _ _ = Wf
         have hsz : Wf.heap.size = wr.heap.size := hWf ▸ setCells_size _ _ _ _
         have hoth : ∀ k, k ≠ w.heap.size + 1 → Wf.heap[k]? = wr.heap[k]? := fun k hk => hWf ▸ setCells_heap _ _ _ _ k hk
         have hOne : One w Wf R := hWf ▸ setCells_one (by omega) _ _ _ HL.out.one
         have hob : Blk Wf (w.heap.size + 1) 39 #[.bool V.sc.nul, .int .i64 V.sc.n, .float .f64 V.sc.f, .string V.sc.text, .slice A V.sc.data.length c, .int .i64 V.sc.scale, .int .i64 V.sc.months, .int .i64 V.sc.days, .int .i64 V.sc.nanos, .slice kB V.keys.length kcB, .slice kD V.kids.length kcD] := hWf ▸ Blk.setCells HL.out.out rfl
         have hRf : Blk Wf R 3 #[.int .i64 r1] := (hoth R (by omega)).trans HL.out.blk
         obtain ⟨hty, hcut⟩ := acore_done rfl HXR.out HXb.out HL.out hsz hoth Hsc.out Hdat.out h1 H2.out
         have hfin : APost X R (d + 1) r V w (.returned (.agg #[.bool V.sc.nul, .int .i64 V.sc.n, .float .f64 V.sc.f, .string V.sc.text, .slice A V.sc.data.length c, .int .i64 V.sc.scale, .int .i64 V.sc.months, .int .i64 V.sc.days, .int .i64 V.sc.nanos, .slice kB V.keys.length kcB, .slice kD V.kids.length kcD])) Wf := APost.mk (vcells V.sc A c kB V.keys.length kcB kD V.kids.length kcD) _ r1 hty ⟨.inr (hcut (by omega)), hcut⟩ ⟨by omega, by omega⟩ hRf hOne
         have Hfin := Lib.hid hfin
         obtain ⟨z0, z1, z2, z3, z4, z5, z6, z7, z8, z9, z10⟩ := hob.c11
         clear hWf hsz hoth hOne hob hRf hty hcut hfin t0 tf hth
         go_wp2_with fail
         exact bodyPost_ret (by simp [results, Tryz.results20, go_sem, z0, z1, z2, z3, z4, z5, z6, z7, z8, z9, z10]) rfl Hfin.out
end Go.Proofs.YtammjbmfiakbnaaGreatDoor
