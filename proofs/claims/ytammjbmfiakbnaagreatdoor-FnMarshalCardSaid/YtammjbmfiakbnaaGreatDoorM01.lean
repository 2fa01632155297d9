/- A part of the proof that the card of laws.FnMarshal holds. No conditions. -/
import Derived.Test.YtammjbmfiakbnaaGreatDoorM00
import Derived.Outline
import Derived.Deep.RegionLaw
import Derived.Deep.DrawnRows
import Derived.Deep.AppendLies
import Derived.Deep.Cut
import Derived.Lib.Hide
import Derived.IntWalk
import Derived.Test.YtammjbmfiakbnaaGreatDoorProg
import Derived.Defers
import Derived.Recover
set_option linter.unusedSimpArgs false
set_option linter.unusedVariables false
namespace Go.Proofs.YtammjbmfiakbnaaGreatDoor
open Go.RowKit
attribute [local go_sem ↓] Go.wp_at_zero Go.wp_at_succ
theorem info35 : (Tryz.prog.info? 35).map (fun i => (i.zero, i.size, i.bytes)) = some (some (.agg #[.int .i64 0, .slice none 0 0, .slice none 0 0]), 3, 56) := by kernel_rfl
/-- The blocks that a copy's parts lie outside of: those given, the row's, the copy's own. -/
def XX (X : Nat → Prop) (n0 : Nat) (kv : Value) (b : Nat) : Prop := X b ∨ kv.ownBlock = some b ∨ b = n0 + 1 ∨ b = n0 + 2
/-- What within's loop keeps. -/
structure WLoop (X : Nat → Prop) (R : Nat) (d n0 : Nat) (T : Ty) (w wr : World) (r : Int) (A' : Option Addr) (c' : Nat) (i : Nat) (r1 : Int) (ks' : List Ty) (kv : Value) (cs : List Value) : Prop where
 le : i ≤ T.kids.length
 room : -1 ≤ r1 ∧ (i : Int) + r1 ≤ r - 1
 blk : Blk wr R 3 #[.int .i64 r1]
 one : One w wr R
 out : Blk wr (n0 + 1) 35 #[.int .i64 0, .slice none 0 0, .slice none 0 0]
 res : Blk wr (n0 + 2) 35 #[.int .i64 T.kind, kv, .slice A' T.names.length c']
 own : wr.ownsRow (n0 + 3) 35 3 kv i cs
 len : ks'.length = i
 sz : n0 + 3 ≤ wr.heap.size
 kids : ∀ (j : Nat) (t : Ty), ks'[j]? = some t → ∃ a b d', cs[j * 3]? = some a ∧ cs[j * 3 + 1]? = some b ∧ cs[j * 3 + 2]? = some d' ∧ TyAt (XX X n0 kv) d wr (.agg #[a, b, d']) t
 cut : ∀ (j : Nat) (a b : Ty), ks'[j]? = some a → T.kids[j]? = some b → Cut a b
theorem own_block {w : World} {base e size n : Nat} {v : Value} {xs : List Value} (h : w.ownsRow base e size v n xs) {k : Nat} (hk : v.ownBlock = some k) : base ≤ k ∧ k < w.heap.size := by
 rcases h.2 with ⟨rfl, _⟩ | ⟨g, cap, cur, rfl, hb, hg, _⟩
 ·cases hk
 ·injection hk with hk
  subst hk
  exact ⟨hb, Blk.lt (t := e) hg⟩
/-- One round of within's loop. -/
theorem wloop_step {X : Nat → Prop} {R d n0 : Nat} {T kt T2 : Ty} {w wr W1 w2 w3 : World} {r r1 r2 : Int} {A' : Option Addr} {c' i gg cap1 : Nat} {ks' : List Ty} {kv x y z : Value} {cs : List Value} {ob : Obj} (hn0 : n0 = w.heap.size) (hXR : X R) (hXb : ∀ b, X b → b < w.heap.size) (hR0 : R < w.heap.size)
  (L : WLoop X R d n0 T w wr r A' c' i r1 ks' kv cs) (hi : T.kids[i]? = some kt) (hE1 : Ext wr W1) (ho2 : One W1 w2 R) (hR2 : Blk w2 R 3 #[.int .i64 r2]) (hr2 : -1 ≤ r2 ∧ r2 < r1) (ht2 : TyAt (XX X n0 kv) d w2 (.agg #[x, y, z]) T2) (hc2 : Cut T2 kt)
  (hown : w3.ownsRow (n0 + 3) 35 3 (.slice (some ⟨gg, 0, none⟩) (i + 1) cap1) (i + 1) (cs ++ [x, y, z])) (hgrow : (w2.alloc ob).grownBy w3 kv.ownBlock) (hat : kv.ownBlock = some gg ∨ gg = w2.heap.size + 1) (hi1 : i < T.kids.length) :
  WLoop X R d n0 T w (w3.setCell ⟨n0 + 2, 1, none⟩ (.slice (some ⟨gg, 0, none⟩) (i + 1) cap1)) r A' c' (i + 1) r2 (ks' ++ [T2]) (.slice (some ⟨gg, 0, none⟩) (i + 1) cap1) (cs ++ [x, y, z]) := by
 subst hn0
 have hkb : ∀ k, kv.ownBlock = some k → w.heap.size + 3 ≤ k ∧ k < wr.heap.size := fun k hk => own_block L.own hk
 have hs1 := hE1.size
 have hs2 := ho2.2.2.2.1
 have hs3 : w2.heap.size + 1 ≤ w3.heap.size := by simpa using hgrow.size
 have hlsz := L.sz
 have hgg : w.heap.size + 3 ≤ gg := by
  rcases hat with h | h
  ·exact (hkb gg h).1
  ·omega
 have hw3 : ∀ k, k < w2.heap.size → kv.ownBlock ≠ some k → w3.heap[k]? = w2.heap[k]? := fun k hk hn =>
  (hgrow.block k (by simp; omega) (fun e => hn e.symm)).trans (((Ext.refl w2).alloc ob).block k hk)
 have hset : ∀ k, k ≠ w.heap.size + 2 → (w3.setCell ⟨w.heap.size + 2, 1, none⟩ (.slice (some ⟨gg, 0, none⟩) (i + 1) cap1)).heap[k]? = w3.heap[k]? := fun k hk => Below.heap_setCell w3 ⟨w.heap.size + 2, 1, none⟩ _ k hk
 have hmove : ∀ k, k < W1.heap.size → k ≠ R → kv.ownBlock ≠ some k → k ≠ w.heap.size + 2 → (w3.setCell ⟨w.heap.size + 2, 1, none⟩ (.slice (some ⟨gg, 0, none⟩) (i + 1) cap1)).heap[k]? = W1.heap[k]? := fun k hk h1 h2 h3 =>
  (hset k h3).trans ((hw3 k (by omega) h2).trans (ho2.2.2.2.2 k hk h1))
 have hXX : ∀ b, XX X w.heap.size (.slice (some ⟨gg, 0, none⟩) (i + 1) cap1) b → XX X w.heap.size kv b ∨ w2.heap.size ≤ b := fun b hb => by
  rcases hb with hb | hb | hb
  ·exact .inl (.inl hb)
  ·injection hb with hb
   simp only at hb
   subst hb
   rcases hat with h | h
   ·exact .inl (.inr (.inl h))
   ·exact .inr (by omega)
  ·exact .inl (.inr (.inr hb))
 have hon : Onx (XX X w.heap.size kv) w2 (w3.setCell ⟨w.heap.size + 2, 1, none⟩ (.slice (some ⟨gg, 0, none⟩) (i + 1) cap1)) :=
  ⟨by simp [World.setCell]; omega, fun k hk hx => (hset k (fun e => hx (.inr (.inr (.inr e))))).trans (hw3 k hk (fun e => hx (.inr (.inl e))))⟩
 have hon0 : Onx (XX X w.heap.size kv) wr w2 := (Onx.of_ext hE1 _).trans (ho2.onx (.inl hXR))
 have hlen : cs.length = i * 3 := L.own.1
 have hfin : ∀ (n : Nat) (v : Value) (t : Ty), TyAt (XX X w.heap.size kv) n w2 v t → TyAt (XX X w.heap.size (.slice (some ⟨gg, 0, none⟩) (i + 1) cap1)) n (w3.setCell ⟨w.heap.size + 2, 1, none⟩ (.slice (some ⟨gg, 0, none⟩) (i + 1) cap1)) v t := fun n v t h => by
  have h1 : TyAt (fun b => XX X w.heap.size kv b ∨ b = gg) n w2 v t := TyAt.weak (fun b hb => by
   rcases hb with hb | rfl
   ·exact .inl hb
   ·rcases hat with h | h
    ·exact .inl (.inr (.inl h))
    ·exact .inr (by omega)) _ _ _ h
  have h2 := TyAt.onx (⟨hon.1, fun k hk hx => hon.2 k hk (fun h => hx (.inl h))⟩ : Onx (fun b => XX X w.heap.size kv b ∨ b = gg) w2 (w3.setCell ⟨w.heap.size + 2, 1, none⟩ (.slice (some ⟨gg, 0, none⟩) (i + 1) cap1))) _ _ _ h1
  refine TyAt.weak (fun b hb => .inl ?_) _ _ _ h2
  rcases hb with hb | hb | hb
  ·exact .inl (.inl hb)
  ·injection hb with hb
   exact .inr hb.symm
  ·exact .inl (.inr (.inr hb))
 refine ⟨by omega, ⟨hr2.1, by have := L.room; omega⟩, ?_, ?_, ?_, ?_, ?_, by simp [L.len], by simp [World.setCell]; omega, ?_, ?_⟩
 ·refine (hset R (by omega)).trans ((hw3 R (by omega) (fun e => ?_)).trans hR2)
  have := hkb R e
  omega
 ·refine ⟨?_, ?_, ?_, by simp [World.setCell]; have := L.one.2.2.2.1; omega, fun k hk hr => ?_⟩
  ·exact hgrow.os.trans (ho2.1.trans (hE1.os.trans L.one.1))
  ·exact hgrow.tape.trans (ho2.2.1.trans (hE1.tape.trans L.one.2.1))
  ·exact hgrow.output.trans (ho2.2.2.1.trans (hE1.output.trans L.one.2.2.1))
  ·have hk' : k < wr.heap.size := by omega
   rw [hmove k (by omega) hr (fun e => by have := hkb k e; omega) (by omega), hE1.block k hk', L.one.2.2.2.2 k hk hr]
 ·exact (hmove _ (by omega) (by omega) (fun e => by have := hkb _ e; omega) (by omega)).trans (L.out.ext hE1)
 ·have h3 : Blk w3 (w.heap.size + 2) 35 #[.int .i64 T.kind, kv, .slice A' T.names.length c'] :=
   (hw3 _ (by omega) (fun e => by have := hkb _ e; omega)).trans ((ho2.2.2.2.2 _ (by omega) (by omega)).trans (L.res.ext hE1))
  exact h3.set_ 1 _
 ·obtain ⟨h1, h2⟩ := hown
  refine ⟨h1, ?_⟩
  rcases h2 with ⟨h, _⟩ | ⟨g', cap', cur, hv, hb, hg, q⟩
  ·cases h
  ·exact .inr ⟨g', cap', cur, hv, hb, (hset g' (by omega)).trans hg, q⟩
 ·intro j t hj
  rcases Nat.lt_or_ge j i with hji | hji
  ·rw [List.getElem?_append_left (by rw [L.len]; exact hji)] at hj
   obtain ⟨a, b, d', ha, hb, hd, ht⟩ := L.kids j t hj
   refine ⟨a, b, d', ?_, ?_, ?_, hfin _ _ _ (TyAt.onx hon0 _ _ _ ht)⟩
   ·rw [List.getElem?_append_left (by omega)]; exact ha
   ·rw [List.getElem?_append_left (by omega)]; exact hb
   ·rw [List.getElem?_append_left (by omega)]; exact hd
  ·have hj' := (List.getElem?_eq_some_iff.1 hj).1
   simp only [List.length_append, List.length_cons, List.length_nil, L.len] at hj'
   obtain rfl : j = i := by omega
   rw [List.getElem?_append_right (by rw [L.len]; omega), L.len] at hj
   simp only [Nat.sub_self, List.getElem?_cons_zero, Option.some.injEq] at hj
   subst hj
   refine ⟨x, y, z, ?_, ?_, ?_, hfin _ _ _ ht2⟩
   ·rw [List.getElem?_append_right (by omega)]; simp [hlen]
   ·rw [List.getElem?_append_right (by omega)]; simp [hlen, show j * 3 + 1 - j * 3 = 1 by omega]
   ·rw [List.getElem?_append_right (by omega)]; simp [hlen, show j * 3 + 2 - j * 3 = 2 by omega]
 ·intro j a b ha hb
  rcases Nat.lt_or_ge j i with hji | hji
  ·rw [List.getElem?_append_left (by rw [L.len]; exact hji)] at ha
   exact L.cut j a b ha hb
  ·have hj' := (List.getElem?_eq_some_iff.1 ha).1
   simp only [List.length_append, List.length_cons, List.length_nil, L.len] at hj'
   obtain rfl : j = i := by omega
   rw [List.getElem?_append_right (by rw [L.len]; omega), L.len] at ha
   simp only [Nat.sub_self, List.getElem?_cons_zero, Option.some.injEq] at ha
   subst ha
   rw [hi] at hb
   injection hb with hb
   subst hb
   exact hc2
theorem own_slice {w : World} {base e size n : Nat} {v : Value} {xs : List Value} (h : w.ownsRow base e size v n xs) : ∃ A c, v = .slice A n c := by
 rcases h.2 with ⟨rfl, rfl⟩ | ⟨g, cap, cur, rfl, _⟩
 ·exact ⟨_, _, rfl⟩
 ·exact ⟨_, _, rfl⟩
/-- Behind within's loop. -/
theorem wloop_done {X : Nat → Prop} {R d n0 : Nat} {T : Ty} {w wr Wf : World} {r r1 : Int} {A' : Option Addr} {c' : Nat} {ks' : List Ty} {kv : Value} {cs : List Value} (hn0 : n0 = w.heap.size) (hXR : X R) (hXb : ∀ b, X b → b < w.heap.size) (hR0 : R < w.heap.size)
  (L : WLoop X R d n0 T w wr r A' c' T.kids.length r1 ks' kv cs) (hsz : Wf.heap.size = wr.heap.size) (hf : ∀ k, k ≠ n0 + 1 → Wf.heap[k]? = wr.heap[k]?) (hnb : ∀ s ∈ T.names, s.size ≤ maxLen) (hn : SegR X w A' (T.names.map Value.string)) (h3 : T.names.length ≤ c') (h4 : c' ≤ maxLen) :
  TyAt X (d + 1) Wf (.agg #[.int .i64 T.kind, kv, .slice A' T.names.length c']) (.mk T.kind ks' T.names) ∧ Cut (.mk T.kind ks' T.names) T := by
 subst hn0
 have hsz3 := L.sz
 have hkb : ∀ k, kv.ownBlock = some k → w.heap.size + 3 ≤ k ∧ k < wr.heap.size := fun k hk => own_block L.own hk
 have hon : Onx (XX X w.heap.size kv) wr Wf := ⟨by omega, fun k _ hx => hf k (fun e => hx (.inr (.inr (.inl e))))⟩
 have hkids : ∀ (j : Nat) (t : Ty), ks'[j]? = some t → ∃ a b d', cs[j * 3]? = some a ∧ cs[j * 3 + 1]? = some b ∧ cs[j * 3 + 2]? = some d' ∧ TyAt X d Wf (.agg #[a, b, d']) t := fun j t hj => by
  obtain ⟨a, b, d', ha, hb, hd, ht⟩ := L.kids j t hj
  exact ⟨a, b, d', ha, hb, hd, TyAt.weak (fun b hb => .inl (.inl hb)) _ _ _ (TyAt.onx hon _ _ _ ht)⟩
 have hnames : SegR X Wf A' (T.names.map Value.string) := fun hne => by
  obtain ⟨b, o, e, hb, hr, hc⟩ := hn hne
  have hbR : b ≠ R := fun e => hr (e ▸ hXR)
  refine ⟨b, o, e, by omega, hr, fun j u hu => ?_⟩
  have h1 : Wf.cell? ⟨b, o + j, none⟩ = wr.cell? ⟨b, o + j, none⟩ := World.cell?_of_block (a := ⟨b, o + j, none⟩) (hf b (by omega))
  exact h1.trans ((L.one.cell hb hbR).trans (hc j u hu))
 constructor
 ·have hl1 : T.kids.length = ks'.length := L.len.symm
  obtain ⟨h1, h2⟩ := L.own
  rcases h2 with ⟨h2, h0⟩ | ⟨g, cap, cur, hv, hb, hg, hle, hcap, hcs, htk⟩
  ·refine ⟨none, 0, A', c', [], ?_, by simp only [Ty.kids_mk]; omega, Nat.zero_le _, h3, h4, hnb, hnames, ?_, SegR.nil _ _ _, ?_⟩
   ·simp only [Ty.kind_mk, Ty.kids_mk, Ty.names_mk]; rw [h2, ← hl1, h0]
   ·simp only [Ty.kids_mk]; rw [← hl1, h0]; rfl
   ·intro i t ht
    simp only [Ty.kids_mk] at ht
    have := (List.getElem?_eq_some_iff.1 ht).1
    omega
  ·refine ⟨some ⟨g, 0, none⟩, cap, A', c', cs, ?_, by simp only [Ty.kids_mk]; omega, hcap, h3, h4, hnb, hnames, ?_, ?_, hkids⟩
   ·simp only [Ty.kind_mk, Ty.kids_mk, Ty.names_mk]; rw [hv, ← hl1]
   ·simp only [Ty.kids_mk]; rw [← hl1]; exact h1
   ·intro _
    have hgb : Blk wr g 35 cur := hg
    have hglt := hgb.lt
    refine ⟨g, 0, rfl, by omega, fun hx => ?_, fun j u hu => ?_⟩
    ·have := hXb g hx
     omega
    ·have h5 : Wf.cell? ⟨g, 0 + j, none⟩ = wr.cell? ⟨g, 0 + j, none⟩ := World.cell?_of_block (a := ⟨g, 0 + j, none⟩) (hf g (by omega))
     rw [h5, Nat.zero_add, hgb.cell]
     rw [← htk, List.getElem?_take] at hu
     split at hu
     ·simpa using hu
     ·cases hu
 ·obtain ⟨k, ks, ns⟩ := T
  exact Cut.node k ks ks' ns L.len L.cut
theorem app_facts {w2 w3 W1 : World} {R p : Nat} {ob : Obj} {a kv b : Value} (L6 : Blk W1 p 35 #[a, kv, b]) (ho2 : One W1 w2 R) (hR : p ≠ R) (hgrow : (w2.alloc ob).grownBy w3 kv.ownBlock) (hn : kv.ownBlock ≠ some p) :
  w3.cell? ⟨p, 1, none⟩ = some kv ∧ w3.frozen? ⟨p, 1, none⟩ = false := by
 have h2 : Blk w2 p 35 #[a, kv, b] := ho2.blk L6 hR
 have h3 : Blk w3 p 35 #[a, kv, b] := (hgrow.block p (by have := h2.lt; simp; omega) (fun e => hn e.symm)).trans (h2.alloc ob)
 exact ⟨h3.cell 1, h3.frozen 1⟩
theorem own_one {w w2 : World} {base e size n R : Nat} {v : Value} {xs : List Value} (h : w.ownsRow base e size v n xs) (ho : One w w2 R) (hR : R < base) : w2.ownsRow base e size v n xs := by
 obtain ⟨h1, h2⟩ := h
 refine ⟨h1, ?_⟩
 rcases h2 with h2 | ⟨g, cap, cur, hv, hb, hg, q⟩
 ·exact .inl h2
 ·exact .inr ⟨g, cap, cur, hv, hb, (ho.2.2.2.2 g (Blk.lt (t := e) hg) (by omega)).trans hg, q⟩
/-- What within leaves. -/
def WPost (X : Nat → Prop) (R d : Nat) (r : Int) (T : Ty) (w : World) (e : Ending) (w' : World) : Prop :=
 ∃ v' T' r', e = .returned v' ∧ TyAt X (d + 1) w' v' T' ∧ Cut T' T ∧ (-1 ≤ r' ∧ r' < r) ∧ Blk w' R 3 #[.int .i64 r'] ∧ One w w' R
theorem WPost.mk {X : Nat → Prop} {R d : Nat} {r : Int} {T : Ty} {w w' : World} {v' : Value} (T' : Ty) (r' : Int) (h1 : TyAt X (d + 1) w' v' T') (h2 : Cut T' T) (h3 : -1 ≤ r' ∧ r' < r) (h4 : Blk w' R 3 #[.int .i64 r']) (h5 : One w w' R) : WPost X R d r T w (.returned v') w' :=
 ⟨v', T', r', rfl, h1, h2, h3, h4, h5⟩
set_option maxRecDepth 100000 in
set_option maxHeartbeats 12800000 in
theorem within_any : ∀ (d : Nat), d ≤ 8 → ∀ (X : Nat → Prop) (m : Nat) (v : Value) (T : Ty) (R : Nat) (r : Int) (w : World), X R → (∀ b, X b → b < w.heap.size) → TyAt X m w v T → Blk w R 3 #[.int .i64 r] → 0 ≤ r ∧ r ≤ 500 →
  Calls Tryz.prog 19 #[v, .int .i64 d, .pointer (some ⟨R, 0, none⟩)] w (WPost X R d r T w) := by
 intro d hd8
 induction d with
 |zero =>
  intro X m v T R r w hXR hXb hT hR hr
  cases m with
  |zero => exact hT.elim
  |succ m =>
   obtain ⟨A, c, A', c', cs, rfl, h1, h2, h3, h4, hnb, h5, h6, h7, h8⟩ := hT
   have Hnb := Lib.hid hnb
   clear hnb
   obtain ⟨r0, rf⟩ := hR.c1
   have hlt := hR.lt
   have hwr : wrap64 (r - 1) = r - 1 := IntWalk.wrap64_in _ (by omega)
   have HR := Lib.hid hR
   clear h1 h2 h3 h4 h5 h6 h7 h8 hR hXb hXR
   go_enter Tryz.func19, Tryz.ntmps19
   by_cases hz : r - 1 < 0
   ·go_wp2_with fail
    generalize hWf : World.alloc _ (Obj.cells #[Value.int IntKind.i64 0, Value.slice none 0 0, Value.slice none 0 0] 35) = Wf
    obtain ⟨hO, hRf, hOne⟩ : Blk Wf (w.heap.size + 1) 35 #[.int .i64 0, .slice none 0 0, .slice none 0 0] ∧ Blk Wf R 3 #[.int .i64 (r - 1)] ∧ One w Wf R := by
     rw [← hWf]
     exact ⟨Blk.new' _ _ 35 _ (by simp [World.setCell]), ((HR.out.set_ 0 _).alloc _).alloc _, (((One.refl w R).set (.inl rfl) _).alloc _).alloc _⟩
    clear hWf
    obtain ⟨s0, s1, s2⟩ := hO.c3
    exact bodyPost_ret (by simp [results, Tryz.results19, go_sem, s0, s1, s2]) rfl (WPost.mk Ty.bad (r - 1) (TyAt.bad X _ Wf) (Cut.bad T) ⟨by omega, by omega⟩ hRf hOne)
   ·go_wp2_with fail
    generalize hWf : World.alloc _ (Obj.cells #[Value.int IntKind.i64 0, Value.slice none 0 0, Value.slice none 0 0] 35) = Wf
    obtain ⟨hO, hRf, hOne⟩ : Blk Wf (w.heap.size + 1) 35 #[.int .i64 0, .slice none 0 0, .slice none 0 0] ∧ Blk Wf R 3 #[.int .i64 (r - 1)] ∧ One w Wf R := by
     rw [← hWf]
     exact ⟨Blk.new' _ _ 35 _ (by simp [World.setCell]), ((HR.out.set_ 0 _).alloc _).alloc _, (((One.refl w R).set (.inl rfl) _).alloc _).alloc _⟩
    clear hWf
    obtain ⟨s0, s1, s2⟩ := hO.c3
    exact bodyPost_ret (by simp [results, Tryz.results19, go_sem, s0, s1, s2]) rfl (WPost.mk Ty.bad (r - 1) (TyAt.bad X _ Wf) (Cut.bad T) ⟨by omega, by omega⟩ hRf hOne)
 |succ d ih =>
  obtain ⟨i0, hi0, hz0, hz1, hz2⟩ := info_parts info35
  intro X m v T R r w hXR hXb hT hR hr
  cases m with
  |zero => exact hT.elim
  |succ m =>
   obtain ⟨A, c, A', c', cs, rfl, h1, h2, h3, h4, hnb, h5, h6, h7, h8⟩ := hT
   have Hnb := Lib.hid hnb
   clear hnb
   obtain ⟨r0, rf⟩ := hR.c1
   have hlt := hR.lt
   have hwr : wrap64 (r - 1) = r - 1 := IntWalk.wrap64_in _ (by omega)
   have HR := Lib.hid hR
   have H5 := Lib.hid h5
   have H7 := Lib.hid h7
   have H8 := Lib.hid h8
   have H6 := Lib.hid h6
   have IH := Lib.hid ih
   have hd0 : ¬ ((d : Int) + 1 = 0) := by omega
   have hdb : (((d : Int) + 1) == 0) = false := by simp; omega
   have HXR := Lib.hid hXR
   have HXb := Lib.hid hXb
   clear h5 h6 h7 h8 hR ih hXR hXb
   go_enter Tryz.func19, Tryz.ntmps19
   by_cases hz : r - 1 < 0
   ·go_wp2_with fail
    generalize hWf : World.alloc _ (Obj.cells #[Value.int IntKind.i64 0, Value.slice none 0 0, Value.slice none 0 0] 35) = Wf
    obtain ⟨hO, hRf, hOne⟩ : Blk Wf (w.heap.size + 1) 35 #[.int .i64 0, .slice none 0 0, .slice none 0 0] ∧ Blk Wf R 3 #[.int .i64 (r - 1)] ∧ One w Wf R := by
     rw [← hWf]
     exact ⟨Blk.new' _ _ 35 _ (by simp [World.setCell]), ((HR.out.set_ 0 _).alloc _).alloc _, (((One.refl w R).set (.inl rfl) _).alloc _).alloc _⟩
    clear hWf
    obtain ⟨s0, s1, s2⟩ := hO.c3
    exact bodyPost_ret (by simp [results, Tryz.results19, go_sem, s0, s1, s2]) rfl (WPost.mk Ty.bad (r - 1) (TyAt.bad X _ Wf) (Cut.bad T) ⟨by omega, by omega⟩ hRf hOne)
   ·go_wp2_with fail
    generalize hW : World.alloc _ (Obj.cells #[Value.int IntKind.i64 T.kind, Value.slice none 0 0, Value.slice A' T.names.length c'] 35) = W0
    have hL0 : WLoop X R (d + 1) w.heap.size T w W0 r A' c' 0 (r - 1) [] (.slice none 0 0) [] := by
     rw [← hW]
     exact ⟨Nat.zero_le _, ⟨by omega, by omega⟩, (((HR.out.set_ 0 _).alloc _).alloc _).alloc _, ((((One.refl w R).set (.inl rfl) _).alloc _).alloc _).alloc _, (Blk.new' _ _ 35 _ (by simp [World.setCell])).alloc _, Blk.new' _ _ 35 _ (by simp [World.setCell]),
      ⟨rfl, .inl ⟨rfl, rfl⟩⟩, rfl, by simp [World.setCell], fun j t h => by simp at h, fun j a b h => by simp at h⟩
    clear hW
    have HL0 := Lib.hid hL0
    clear hL0
    go_loopw [32] (fun v wr => ∃ (i : Nat) (r1 : Int) (ks' : List Ty) (kv : Value) (cs1 : List Value), v = .int .i64 i ∧ WLoop X R (d + 1) w.heap.size T w wr r A' c' i r1 ks' kv cs1) (fun v _ => T.kids.length - (intOf v).toNat)
    case atStart => exact ⟨0, r - 1, [], _, [], rfl, HL0.out⟩
    case round =>
     obtain ⟨i, r1, ks', kv, cs1, rfl, hL⟩ := hrel
     obtain ⟨l1, l2, l3, l4, l5, l6, l7, l8, l9, l10, l11⟩ := hL
     by_cases hi : (i : Int) < T.kids.length
     ·have hi' : i < T.kids.length := by omega
      obtain ⟨ka, kb, kd, e0, e1, e2, hkid⟩ := H8.out i _ (List.getElem?_eq_getElem hi')
      have hkt : T.kids[i]? = some T.kids[i] := List.getElem?_eq_getElem hi'
      generalize T.kids[i] = kt at hkid hkt
      have Hkt := Lib.hid hkt
      clear hkt
      obtain ⟨b, o, hA, hb, hbR, hcell⟩ := H7.out (by rintro rfl; simp at e0)
      subst hA
      have hbR' : b ≠ R := fun e => hbR (e ▸ HXR.out)
      have j0 : wr.cell? ⟨b, o + i * 3, none⟩ = some ka := (l4.cell hb hbR').trans (hcell _ _ e0)
      have j1 : wr.cell? ⟨b, o + i * 3 + 1, none⟩ = some kb := (l4.cell hb hbR').trans (by rw [Nat.add_assoc]; exact hcell _ _ e1)
      have j2 : wr.cell? ⟨b, o + i * 3 + 2, none⟩ = some kd := (l4.cell hb hbR').trans (by rw [Nat.add_assoc]; exact hcell _ _ e2)
      obtain ⟨xA, xc, yA, yc, rfl, rfl, rfl⟩ := hkid.form3
      have L7 := Lib.hid l7
      have L8 := Lib.hid l8
      have L10 := Lib.hid l10
      have L11 := Lib.hid l11
      have Hkid := Lib.hid hkid
      have L3 := Lib.hid l3
      have L4 := Lib.hid l4
      have L5 := Lib.hid l5
      have L6 := Lib.hid l6
      clear l3 l4 l5 l6 l7 l8 l10 l11 hkid e0 e1 e2 hcell HL0
      go_upto_region 8 with fail
      generalize hW1 : wr.alloc (Obj.cells #[Value.int IntKind.i64 kt.kind, Value.slice xA kt.kids.length xc, Value.slice yA kt.names.length yc] 25) = W1
      have hE1 : Ext wr W1 := hW1 ▸ (Ext.refl wr).alloc _
      have hlt1 : wr.heap.size < W1.heap.size := by rw [← hW1]; simp
      have hK1 : Blk W1 wr.heap.size 25 #[Value.int IntKind.i64 kt.kind, Value.slice xA kt.kids.length xc, Value.slice yA kt.names.length yc] := hW1 ▸ Blk.new wr 25 _
      clear hW1 j0 j1 j2
      have l3 := L3.out.ext hE1
      have l5 := L5.out.ext hE1
      have l6 := L6.out.ext hE1
      have l9' := hE1.size
      obtain ⟨q0, q1, q2, qf⟩ : W1.cell? ⟨w.heap.size + 1 + 1, 0, none⟩ = some (.int .i64 T.kind) ∧ W1.cell? ⟨w.heap.size + 1 + 1, 1, none⟩ = some kv ∧ W1.cell? ⟨w.heap.size + 1 + 1, 2, none⟩ = some (.slice A' T.names.length c') ∧ W1.frozen? ⟨w.heap.size + 1 + 1, 1, none⟩ = false :=
       ⟨l6.cell 0, l6.cell 1, l6.cell 2, l6.frozen 1⟩
      obtain ⟨s0, s1, s2, sf⟩ : W1.cell? ⟨w.heap.size + 1, 0, none⟩ = some (.int .i64 0) ∧ W1.cell? ⟨w.heap.size + 1, 1, none⟩ = some (.slice none 0 0) ∧ W1.cell? ⟨w.heap.size + 1, 2, none⟩ = some (.slice none 0 0) ∧ ∀ i, W1.frozen? ⟨w.heap.size + 1, i, none⟩ = false :=
       ⟨l5.cell 0, l5.cell 1, l5.cell 2, fun i => l5.frozen i⟩
      obtain ⟨p0, p1, p2⟩ := hK1.c3
      obtain ⟨t0, tf⟩ := l3.c1
      have HE1 := Lib.hid hE1
      clear l3 l5 l6 hK1 hE1
      by_cases hr1 : r1 < 0
      ·go_wp2_with fail
       generalize hWf : World.setCell _ ⟨w.heap.size + 1, 2, none⟩ _ = Wf
       have hO : Blk Wf (w.heap.size + 1) 35 #[.int .i64 0, .slice none 0 0, .slice none 0 0] := by
        rw [← hWf]
        exact Blk.set_ (Blk.set_ (Blk.set_ (L5.out.ext HE1.out) 0 _) 1 _) 2 _
       have hRf : Blk Wf R 3 #[.int .i64 r1] := by
        rw [← hWf]
        exact ((((L3.out.ext HE1.out).off (by omega) _).off (by omega) _).off (by omega) _)
       have hOne : One w Wf R := by
        rw [← hWf]
        exact (((L4.out.trans (One.of_ext HE1.out R)).set (.inr (by simp)) _).set (.inr (by simp)) _).set (.inr (by simp)) _
       clear hWf
       obtain ⟨z0, z1, z2⟩ := hO.c3
       exact bodyPost_ret (by simp [results, Tryz.results19, go_sem, z0, z1, z2]) rfl (WPost.mk Ty.bad r1 (TyAt.bad X _ Wf) (Cut.bad T) ⟨by omega, by omega⟩ hRf hOne)
      ·go_wp2_with fail
       have hX'R : XX X w.heap.size kv R := .inl HXR.out
       have hkb : ∀ k, kv.ownBlock = some k → w.heap.size + 3 ≤ k ∧ k < wr.heap.size := fun k hk => own_block L7.out hk
       have hX'b : ∀ b, XX X w.heap.size kv b → b < W1.drew.heap.size := fun b hb => by
        show b < W1.heap.size
        rcases hb with hb | hb | hb
        ·have := HXb.out b hb
         omega
        ·have := hkb b hb
         omega
        ·omega
       have hkid' : TyAt (XX X w.heap.size kv) m W1.drew (.agg #[Value.int IntKind.i64 kt.kind, Value.slice xA kt.kids.length xc, Value.slice yA kt.names.length yc]) kt :=
        TyAt.onx ((L4.out.trans (One.of_ext HE1.out R)).drew.onx hX'R) _ _ _ (TyAt.weak (fun b hb => by
         rcases hb with hb | hb | hb
         ·exact .inl hb
         ·exact .inr (by have := hkb b hb; omega)
         ·exact .inr (by omega)) _ _ _ Hkid.out)
       have hcall := IH.out (by omega) (XX X w.heap.size kv) m _ kt R r1 W1.drew hX'R hX'b hkid' ((L3.out.ext HE1.out).drew) ⟨by omega, by omega⟩
       have Hcall := Lib.hid hcall
       clear hcall hkid' hX'b hX'R hkb
       have hne2 : kv.ownBlock ≠ some (w.heap.size + 1 + 1) := fun e => by have := (own_block L7.out e).1; omega
       have hown1 : ∀ w2, One W1.drew w2 R → w2.ownsRow (w.heap.size + 3) 35 3 kv i cs1 := fun w2 h => own_one L7.out ((One.of_ext HE1.out R).trans (One.trans (One.drew (One.refl W1 R)) h)) (by omega)
       have hb0 : ∀ w2, One W1.drew w2 R → w.heap.size + 3 ≤ (w2.alloc (Obj.cells #[] 35)).heap.size := fun w2 h => by have := h.2.2.2.1; simp at this ⊢; omega
       have Hb0 := Lib.hid hb0
       clear hb0
       have Hown1 := Lib.hid hown1
       have Hne2 := Lib.hid hne2
       have L6' := Lib.hid (L6.out.ext HE1.out)
       have hi500 : i ≤ 500 := by omega
       clear hown1 hne2
       go_upto_region 10 with fail
       clear q0 q2 qf s0 s1 s2 sf t0 tf r0 rf hwr hd0 hdb h1 h2 h3 h4 hz hb hbR hbR'
       have hwd : IntKind.i64.wrap (d : Int) = d := IntWalk.i64_in _ (by omega)
       refine wp_region_K (fun w' => w'.cell? ⟨w.heap.size + 1 + 1, 1, none⟩ = some kv ∧ w'.cell? ⟨wr.heap.size, 0, none⟩ = some (Value.int IntKind.i64 kt.kind) ∧ w'.cell? ⟨wr.heap.size, 1, none⟩ = some (Value.slice xA kt.kids.length xc) ∧ w'.cell? ⟨wr.heap.size, 2, none⟩ = some (Value.slice yA kt.names.length yc)) (ix [1, 2, 6, 7]) 11 [false, false, false, false, false, false, false, false, false, false, false] (by kernel_rfl) rfl rfl ?_
       refine fV 0 (v := ?v0) rfl (by rfl) ?y0 ?_
       case y0 => intro w; go_simp; with_reducible rfl
       simp only [aP, aN, aT, aZ, aS]
       refine fV 3 (v := ?v3) rfl (by rfl) ?y3 ?_
       case y3 => intro w; go_simp; with_reducible rfl
       simp only [aP, aN, aT, aZ, aS]
       refine fV 4 (v := ?v4) rfl (by rfl) ?y4 ?_
       case y4 => intro w; go_simp; with_reducible rfl
       simp only [aP, aN, aT, aZ, aS]
       refine fV 5 (v := ?v5) rfl (by rfl) ?y5 ?_
       case y5 => intro w; go_simp; with_reducible rfl
       simp only [aP, aN, aT, aZ, aS]
       refine tV 1 (ix [8, 9, 10]) (v := ?v1) rfl ⟨q1, p0, p1, p2⟩ (by rfl) ?y1 ?_
       case y1 => rintro w ⟨hs0, hs1, hs2, hs3⟩; go_simp; with_reducible rfl
       simp only [aP, aN, aT, aZ, aS]
       refine tV 2 (rg 6 10) (v := ?v2) rfl ⟨q1, p0, p1, p2⟩ (by rfl) ?y2 ?_
       case y2 => rintro w ⟨hs0, hs1, hs2, hs3⟩; go_simp; with_reducible rfl
       simp only [aP, aN, aT, aZ, aS]
       clear hwd
       refine wpAnyK_one 6 (by kernel_rfl) rfl rfl (fun K' hK => ?_)
       go_simp
       refine Hcall.out.mono ?_
       rintro e w2 ⟨v2, T2, r2, rfl, ht2, hc2, hr2, hR2, ho2⟩
       obtain ⟨zA, zc, zA', zc', rfl⟩ := ht2.form
       have hz2' : W1.heap.size ≤ w2.heap.size := ho2.2.2.2.1
       have hk2 : ∀ b o, b < W1.heap.size → b ≠ R → w2.cell? ⟨b, o, none⟩ = W1.cell? ⟨b, o, none⟩ := fun b o hb hr => ho2.cell hb hr
       have hS2 : w2.cell? ⟨w.heap.size + 1 + 1, 1, none⟩ = some kv ∧ w2.cell? ⟨wr.heap.size, 0, none⟩ = some (Value.int IntKind.i64 kt.kind) ∧ w2.cell? ⟨wr.heap.size, 1, none⟩ = some (Value.slice xA kt.kids.length xc) ∧ w2.cell? ⟨wr.heap.size, 2, none⟩ = some (Value.slice yA kt.names.length yc) :=
        ⟨(hk2 _ _ (by omega) (by omega)).trans q1, (hk2 _ _ (by omega) (by omega)).trans p0, (hk2 _ _ (by omega) (by omega)).trans p1, (hk2 _ _ (by omega) (by omega)).trans p2⟩
       clear hk2 q1 p0 p1 p2
       refine hK.out _ _ (fun _ => hS2) ?_
       clear hK K'
       simp only [aP, aN, aT, aZ, aS]
       refine wpAnyK_one 7 (by kernel_rfl) rfl rfl (fun K' hK => ?_)
       go_simp
       refine hK.out _ _ (fun _ => ?_) ?_
       ·exact ⟨((Ext.refl w2).alloc _).cellS hS2.1, ((Ext.refl w2).alloc _).cellS hS2.2.1, ((Ext.refl w2).alloc _).cellS hS2.2.2.1, ((Ext.refl w2).alloc _).cellS hS2.2.2.2⟩
       clear hK K'
       simp only [aP, aN, aT, aZ, aS]
       refine wpAnyK_one 8 (by kernel_rfl) rfl rfl (fun K' hK => ?_)
       have hown2 := (Hown1.out _ ho2)
       refine wp_append_lies _ _ _ _ (by rfl) (w.heap.size + 3) 35 i0 _ 3 56 Tryz.underlying33 hi0 hz0 hz1 hz2 rfl (by omega) kv i cs1 (by rfl) (hown2.alloc _) ⟨w2.heap.size, 0, none⟩ 1 1 [.int .i64 T2.kind, .slice zA T2.kids.length zc, .slice zA' T2.names.length zc'] (by rfl) (by rfl)
        (World.news_of_block (heap_alloc_new w2 _)) (by simp [Value.oneCell']) (by omega) (by unfold maxLen; omega) (by omega) (by simp; omega) (w2.heap.size + 1) (by simp) ?_
       intro gg cap1 w3 hown3 hgrow hat hltg
       obtain ⟨k0, f0⟩ := app_facts (p := w.heap.size + 1 + 1) L6'.out ho2 (by omega) hgrow Hne2.out
       have Hstep := Lib.hid (wloop_step rfl HXR.out HXb.out hlt ⟨l1, l2, L3.out, L4.out, L5.out, L6.out, L7.out, L8.out, l9, L10.out, L11.out⟩ Hkt.out HE1.out ho2 hR2 hr2 ht2 hc2 hown3 hgrow hat hi')
       clear hown3 hgrow hat hown2 ht2 hc2 ho2 hR2 hS2
       refine hK.out _ _ (fun h => absurd h (by decide)) ?_
       clear hK K'
       simp only [aP, aN, aT, aZ, aS]
       refine fV 9 (v := ?v9) rfl (by rfl) ?y9 ?_
       case y9 => intro w; go_simp; with_reducible rfl
       simp only [aP, aN, aT, aZ, aS]
       refine wpAnyK_one 10 (by kernel_rfl) rfl rfl (fun K' hK => ?_)
       go_simp
       refine hK.out _ _ (fun h => absurd h (by decide)) ?_
       clear hK K'
       simp only [aP, aN, aT, aZ, aS]
       refine wpAnyK_done (by kernel_rfl) ?_ _
       go_wp2_with fail
       exact ⟨⟨i + 1, r2, _, _, _, rfl, Hstep.out⟩, by simp [intOf]; omega⟩
     ·have hie : i = T.kids.length := by omega
      subst hie
      obtain ⟨kA, kc, hkv⟩ := own_slice l7
      subst hkv
      obtain ⟨q0, q1, q2⟩ : wr.cell? ⟨w.heap.size + 1 + 1, 0, none⟩ = some (.int .i64 T.kind) ∧ wr.cell? ⟨w.heap.size + 1 + 1, 1, none⟩ = some (.slice kA T.kids.length kc) ∧ wr.cell? ⟨w.heap.size + 1 + 1, 2, none⟩ = some (.slice A' T.names.length c') := l6.c3
      obtain ⟨s0, s1, s2⟩ := l5.c3
      have sf : ∀ i, wr.frozen? ⟨w.heap.size + 1, i, none⟩ = false := fun i => l5.frozen i
      have hd := fun Wf h1 h2 => wloop_done (Wf := Wf) rfl HXR.out HXb.out hlt ⟨l1, l2, l3, l4, l5, l6, l7, l8, l9, l10, l11⟩ h1 h2 Hnb.out H5.out h3 h4
      have Hd := Lib.hid hd
      have L3 := Lib.hid l3
      have L4 := Lib.hid l4
      have L5 := Lib.hid l5
      clear l3 l4 l5 l6 l7 l8 l10 l11 hd HL0
      go_wp2_with fail
      generalize hWf : World.setCell _ ⟨w.heap.size + 1, 2, none⟩ _ = Wf
      have hO : Blk Wf (w.heap.size + 1) 35 #[.int .i64 T.kind, .slice kA T.kids.length kc, .slice A' T.names.length c'] := by
       rw [← hWf]
       exact Blk.set_ (Blk.set_ (Blk.set_ L5.out 0 _) 1 _) 2 _
      have hRf : Blk Wf R 3 #[.int .i64 r1] := by
       rw [← hWf]
       exact (((L3.out.off (by omega) _).off (by omega) _).off (by omega) _)
      have hOne : One w Wf R := by
       rw [← hWf]
       exact (((L4.out).set (.inr (by simp)) _).set (.inr (by simp)) _).set (.inr (by simp)) _
      obtain ⟨hty, hcut⟩ := Hd.out Wf (by rw [← hWf]; simp [World.setCell]) (fun k hk => by
       rw [← hWf]
       exact (Below.heap_setCell _ ⟨w.heap.size + 1, 2, none⟩ _ k hk).trans ((Below.heap_setCell _ ⟨w.heap.size + 1, 1, none⟩ _ k hk).trans (Below.heap_setCell _ ⟨w.heap.size + 1, 0, none⟩ _ k hk)))
      clear hWf
      obtain ⟨z0, z1, z2⟩ := hO.c3
      exact bodyPost_ret (by simp [results, Tryz.results19, go_sem, z0, z1, z2]) rfl (WPost.mk _ r1 hty hcut ⟨by omega, by omega⟩ hRf hOne)
end Go.Proofs.YtammjbmfiakbnaaGreatDoor
namespace Go.Proofs.YtammjbmfiakbnaaGreatDoor
open Go.RowKit
/-- A truth value is answered, and nothing else is done. -/
def AnsQ (Q : Bool → Prop) (w : World) (e : Ending) (w' : World) : Prop := ∃ b : Bool, e = .returned (.bool b) ∧ Q b ∧ w = w'
/-- A truth value is answered, and what was there is as it was. -/
def AnsB (Q : Bool → Prop) (w : World) (e : Ending) (w' : World) : Prop := ∃ b : Bool, e = .returned (.bool b) ∧ Q b ∧ Ext w w'
theorem AnsQ.mk {Q : Bool → Prop} {w : World} {b : Bool} (h : Q b) : AnsQ Q w (.returned (.bool b)) w := ⟨b, rfl, h, rfl⟩
theorem AnsB.mk {Q : Bool → Prop} {w w' : World} {b : Bool} (h : Q b) (he : Ext w w') : AnsB Q w (.returned (.bool b)) w' := ⟨b, rfl, h, he⟩
set_option maxRecDepth 100000 in
theorem ascii_any (s : ByteArray) (hs : s.size ≤ maxLen) (w : World) : Calls Tryz.prog 35 #[.string s] w (AnsQ (fun b => b = true → s.size ≤ 100) w) := by
 unfold maxLen at hs
 go_enter Tryz.func35, Tryz.ntmps35
 go_wp2
 go_loop [3, 6] (fun _ i => ∃ k : Nat, k ≤ s.size ∧ i = .int .i64 k) (fun _ i => s.size - (intOf i).toNat)
 case atStart => exact ⟨0, Nat.zero_le _, rfl⟩
 case round =>
  obtain ⟨k, hk, rfl⟩ := hrel
  by_cases hlt : k < s.size
  ·by_cases hb : 128 ≤ (s[k].toNat : Int)
   ·go_wp2
    go_ret
    exact AnsQ.mk (by simp)
   ·go_wp2
    go_round
    case rel => exact ⟨k + 1, by omega, by go_num⟩
    case measure => simp [intOf]; omega
  ·go_wp2
   go_ret
   exact AnsQ.mk (by simp; omega)
set_option maxRecDepth 100000 in
theorem fits2_any (A : Option Addr) (c : Nat) (ns : List ByteArray) (X : Nat → Prop) (h1 : ns.length ≤ c) (h2 : c ≤ maxLen) (w : World) (h : SegR X w A (ns.map Value.string)) :
  Calls Tryz.prog 18 #[.slice A ns.length c] w (AnsQ (fun _ => True) w) := by
 unfold maxLen at h2
 by_cases hbig : (2147483647 : Int) < ns.length
 ·clear h
  go_enter Tryz.func18, Tryz.ntmps18
  go_wp2
  go_ret
  exact AnsQ.mk trivial
 have H := Lib.hid h
 clear h
 go_enter Tryz.func18, Tryz.ntmps18
 go_wp2
 go_loop [4, 10] (fun _ i => ∃ k : Nat, k ≤ ns.length ∧ i = .int .i64 k) (fun _ i => ns.length - (intOf i).toNat)
 case atStart => exact ⟨0, Nat.zero_le _, rfl⟩
 case round =>
  obtain ⟨k, hk, rfl⟩ := hrel
  by_cases hlt : k < ns.length
  ·obtain ⟨b, o, rfl, hb, hX, hc⟩ := H.out (by intro e; simp at e; subst e; simp at hlt)
   have c0 : w.cell? ⟨b, o + k, none⟩ = some (.string ns[k]) := hc k _ (by simp [List.getElem?_eq_getElem hlt])
   clear hc
   generalize ns[k] = s at c0
   by_cases hz : (2147483647 : Int) < s.size
   ·go_wp2
    go_ret
    exact AnsQ.mk trivial
   ·go_wp2
    go_round
    case rel => exact ⟨k + 1, by omega, by go_num⟩
    case measure => simp [intOf]; omega
  ·go_wp2
   go_ret
   exact AnsQ.mk trivial
set_option maxRecDepth 100000 in
theorem fits1_any (X : Nat → Prop) (m : Nat) (v : Value) (T : Ty) (w : World) (h : TyAt X m w v T) :
  Calls Tryz.prog 6 #[v] w (AnsB (fun _ => True) w) := by
 cases m with
 |zero => exact h.elim
 |succ m =>
  obtain ⟨A, c, A', c', cs, rfl, h1, h2, h3, h4, hnb, h5, h6, h7, h8⟩ := h
  have H5 := Lib.hid h5
  clear hnb h5 h6 h7 h8
  by_cases hbig : (2147483647 : Int) < T.kids.length
  ·go_enter Tryz.func6, Tryz.ntmps6
   go_wp2_with fail
   go_ret
   exact AnsB.mk trivial ((Ext.refl _).alloc _)
  ·have hn : SegR X (w.alloc (.cells #[.int .i64 T.kind, .slice A T.kids.length c, .slice A' T.names.length c'] 25)) A' (T.names.map Value.string) := H5.out.onx (Onx.of_ext ((Ext.refl w).alloc _) X)
   have Hn := Lib.hid (fits2_any A' c' T.names X h3 h4 _ hn)
   clear hn
   go_enter Tryz.func6, Tryz.ntmps6
   go_wp2_with fail
   refine Hn.out.mono ?_
   rintro e w' ⟨b, rfl, _, rfl⟩
   cases b
   ·go_wp2_with fail
    go_ret
    exact AnsB.mk trivial ((Ext.refl _).alloc _)
   ·go_wp2_with fail
    go_ret
    exact AnsB.mk trivial ((Ext.refl _).alloc _)
/-- A type as it comes in. -/
def TyIn (w : World) (v : Value) (T : Ty) : Prop := ∃ m, TyAt (fun _ => False) m w v T
end Go.Proofs.YtammjbmfiakbnaaGreatDoor
namespace Go.Proofs.YtammjbmfiakbnaaGreatDoor
open Go.RowKit
/-- A native type as the package has it. -/
abbrev natT (k : Int) : Value := .agg #[.int .u8 4, .int .i64 k, .string ⟨#[]⟩]
theorem nt_version (k : Int) (w : World) : Calls Tryz.prog 261 #[natT k] w fun e w' => e = .returned (.int .u8 4) ∧ Ext w w' := by
 go_enter Tryz.func261, Tryz.ntmps261
 go_wp2
 go_ret
 exact ⟨rfl, (Ext.refl w).alloc _⟩
theorem nt_type (k : Int) (w : World) : Calls Tryz.prog 260 #[natT k] w fun e w' => e = .returned (.int .i64 k) ∧ Ext w w' := by
 go_enter Tryz.func260, Tryz.ntmps260
 go_wp2
 go_ret
 exact ⟨rfl, (Ext.refl w).alloc _⟩
/-- The marshaller F hands back a slice with no error, whatever has been made before. -/
def Gives (F : FuncId) (info v : Value) (w : World) (Post : Value → World → Prop) : Prop :=
 ∀ W, Ext w W → Calls Tryz.prog F #[info, v] W fun e w' => ∃ r, e = .returned (.tuple #[r, .nilIface]) ∧ Post r w' ∧ Ext W w'
set_option maxRecDepth 100000 in
theorem disp_1 (T : TypeId) (g v : Value) (w : World) (Post : Value → World → Prop)
  (hV : ∀ W, (method 461 T g "Version").run Tryz.prog W = .ok (261, natT 1) W) (hT : ∀ W, (method 461 T g "Type").run Tryz.prog W = .ok (260, natT 1) W)
  (hA : ∀ W, (Instr.typeAssert v 20 128 true).run Tryz.prog W = .ok (.tuple #[.nilIface, .bool false]) W) (hG : Hid (Gives 52 (.iface T g) v w Post)) :
  Calls Tryz.prog 27 #[.iface T g, v] w fun e w' => ∃ r, e = .returned (.tuple #[r, .nilIface]) ∧ Post r w' ∧ Ext w w' := by
 go_enter Tryz.func27, Tryz.ntmps27
 go_wp2_with fail
 refine (nt_version _ _).mono ?_
 rintro e w1 ⟨rfl, hx1⟩
 go_wp2_with fail
 refine (nt_type _ _).mono ?_
 rintro e w2 ⟨rfl, hx2⟩
 go_wp2_with fail
 refine (hG.out _ (hx1.trans hx2)).mono ?_
 rintro e w3 ⟨r, rfl, hP, hx3⟩
 go_wp2_with fail
 go_ret2
 exact ⟨r, rfl, hP, (hx1.trans hx2).trans hx3⟩
set_option maxRecDepth 100000 in
theorem disp_13 (T : TypeId) (g v : Value) (w : World) (Post : Value → World → Prop)
  (hV : ∀ W, (method 461 T g "Version").run Tryz.prog W = .ok (261, natT 13) W) (hT : ∀ W, (method 461 T g "Type").run Tryz.prog W = .ok (260, natT 13) W)
  (hA : ∀ W, (Instr.typeAssert v 20 128 true).run Tryz.prog W = .ok (.tuple #[.nilIface, .bool false]) W) (hG : Hid (Gives 52 (.iface T g) v w Post)) :
  Calls Tryz.prog 27 #[.iface T g, v] w fun e w' => ∃ r, e = .returned (.tuple #[r, .nilIface]) ∧ Post r w' ∧ Ext w w' := by
 go_enter Tryz.func27, Tryz.ntmps27
 go_wp2_with fail
 refine (nt_version _ _).mono ?_
 rintro e w1 ⟨rfl, hx1⟩
 go_wp2_with fail
 refine (nt_type _ _).mono ?_
 rintro e w2 ⟨rfl, hx2⟩
 go_wp2_with fail
 refine (hG.out _ (hx1.trans hx2)).mono ?_
 rintro e w3 ⟨r, rfl, hP, hx3⟩
 go_wp2_with fail
 go_ret2
 exact ⟨r, rfl, hP, (hx1.trans hx2).trans hx3⟩
set_option maxRecDepth 100000 in
theorem disp_3 (T : TypeId) (g v : Value) (w : World) (Post : Value → World → Prop)
  (hV : ∀ W, (method 461 T g "Version").run Tryz.prog W = .ok (261, natT 3) W) (hT : ∀ W, (method 461 T g "Type").run Tryz.prog W = .ok (260, natT 3) W)
  (hA : ∀ W, (Instr.typeAssert v 20 128 true).run Tryz.prog W = .ok (.tuple #[.nilIface, .bool false]) W) (hG : Hid (Gives 52 (.iface T g) v w Post)) :
  Calls Tryz.prog 27 #[.iface T g, v] w fun e w' => ∃ r, e = .returned (.tuple #[r, .nilIface]) ∧ Post r w' ∧ Ext w w' := by
 go_enter Tryz.func27, Tryz.ntmps27
 go_wp2_with fail
 refine (nt_version _ _).mono ?_
 rintro e w1 ⟨rfl, hx1⟩
 go_wp2_with fail
 refine (nt_type _ _).mono ?_
 rintro e w2 ⟨rfl, hx2⟩
 go_wp2_with fail
 refine (hG.out _ (hx1.trans hx2)).mono ?_
 rintro e w3 ⟨r, rfl, hP, hx3⟩
 go_wp2_with fail
 go_ret2
 exact ⟨r, rfl, hP, (hx1.trans hx2).trans hx3⟩
set_option maxRecDepth 100000 in
theorem disp_4 (T : TypeId) (g v : Value) (w : World) (Post : Value → World → Prop)
  (hV : ∀ W, (method 461 T g "Version").run Tryz.prog W = .ok (261, natT 4) W) (hT : ∀ W, (method 461 T g "Type").run Tryz.prog W = .ok (260, natT 4) W)
  (hA : ∀ W, (Instr.typeAssert v 20 128 true).run Tryz.prog W = .ok (.tuple #[.nilIface, .bool false]) W) (hG : Hid (Gives 53 (.iface T g) v w Post)) :
  Calls Tryz.prog 27 #[.iface T g, v] w fun e w' => ∃ r, e = .returned (.tuple #[r, .nilIface]) ∧ Post r w' ∧ Ext w w' := by
 go_enter Tryz.func27, Tryz.ntmps27
 go_wp2_with fail
 refine (nt_version _ _).mono ?_
 rintro e w1 ⟨rfl, hx1⟩
 go_wp2_with fail
 refine (nt_type _ _).mono ?_
 rintro e w2 ⟨rfl, hx2⟩
 go_wp2_with fail
 refine (hG.out _ (hx1.trans hx2)).mono ?_
 rintro e w3 ⟨r, rfl, hP, hx3⟩
 go_wp2_with fail
 go_ret2
 exact ⟨r, rfl, hP, (hx1.trans hx2).trans hx3⟩
set_option maxRecDepth 100000 in
theorem disp_20 (T : TypeId) (g v : Value) (w : World) (Post : Value → World → Prop)
  (hV : ∀ W, (method 461 T g "Version").run Tryz.prog W = .ok (261, natT 20) W) (hT : ∀ W, (method 461 T g "Type").run Tryz.prog W = .ok (260, natT 20) W)
  (hA : ∀ W, (Instr.typeAssert v 20 128 true).run Tryz.prog W = .ok (.tuple #[.nilIface, .bool false]) W) (hG : Hid (Gives 54 (.iface T g) v w Post)) :
  Calls Tryz.prog 27 #[.iface T g, v] w fun e w' => ∃ r, e = .returned (.tuple #[r, .nilIface]) ∧ Post r w' ∧ Ext w w' := by
 go_enter Tryz.func27, Tryz.ntmps27
 go_wp2_with fail
 refine (nt_version _ _).mono ?_
 rintro e w1 ⟨rfl, hx1⟩
 go_wp2_with fail
 refine (nt_type _ _).mono ?_
 rintro e w2 ⟨rfl, hx2⟩
 go_wp2_with fail
 refine (hG.out _ (hx1.trans hx2)).mono ?_
 rintro e w3 ⟨r, rfl, hP, hx3⟩
 go_wp2_with fail
 go_ret2
 exact ⟨r, rfl, hP, (hx1.trans hx2).trans hx3⟩
set_option maxRecDepth 100000 in
theorem disp_19 (T : TypeId) (g v : Value) (w : World) (Post : Value → World → Prop)
  (hV : ∀ W, (method 461 T g "Version").run Tryz.prog W = .ok (261, natT 19) W) (hT : ∀ W, (method 461 T g "Type").run Tryz.prog W = .ok (260, natT 19) W)
  (hA : ∀ W, (Instr.typeAssert v 20 128 true).run Tryz.prog W = .ok (.tuple #[.nilIface, .bool false]) W) (hG : Hid (Gives 55 (.iface T g) v w Post)) :
  Calls Tryz.prog 27 #[.iface T g, v] w fun e w' => ∃ r, e = .returned (.tuple #[r, .nilIface]) ∧ Post r w' ∧ Ext w w' := by
 go_enter Tryz.func27, Tryz.ntmps27
 go_wp2_with fail
 refine (nt_version _ _).mono ?_
 rintro e w1 ⟨rfl, hx1⟩
 go_wp2_with fail
 refine (nt_type _ _).mono ?_
 rintro e w2 ⟨rfl, hx2⟩
 go_wp2_with fail
 refine (hG.out _ (hx1.trans hx2)).mono ?_
 rintro e w3 ⟨r, rfl, hP, hx3⟩
 go_wp2_with fail
 go_ret2
 exact ⟨r, rfl, hP, (hx1.trans hx2).trans hx3⟩
set_option maxRecDepth 100000 in
theorem disp_9 (T : TypeId) (g v : Value) (w : World) (Post : Value → World → Prop)
  (hV : ∀ W, (method 461 T g "Version").run Tryz.prog W = .ok (261, natT 9) W) (hT : ∀ W, (method 461 T g "Type").run Tryz.prog W = .ok (260, natT 9) W)
  (hA : ∀ W, (Instr.typeAssert v 20 128 true).run Tryz.prog W = .ok (.tuple #[.nilIface, .bool false]) W) (hG : Hid (Gives 56 (.iface T g) v w Post)) :
  Calls Tryz.prog 27 #[.iface T g, v] w fun e w' => ∃ r, e = .returned (.tuple #[r, .nilIface]) ∧ Post r w' ∧ Ext w w' := by
 go_enter Tryz.func27, Tryz.ntmps27
 go_wp2_with fail
 refine (nt_version _ _).mono ?_
 rintro e w1 ⟨rfl, hx1⟩
 go_wp2_with fail
 refine (nt_type _ _).mono ?_
 rintro e w2 ⟨rfl, hx2⟩
 go_wp2_with fail
 refine (hG.out _ (hx1.trans hx2)).mono ?_
 rintro e w3 ⟨r, rfl, hP, hx3⟩
 go_wp2_with fail
 go_ret2
 exact ⟨r, rfl, hP, (hx1.trans hx2).trans hx3⟩
set_option maxRecDepth 100000 in
theorem disp_2 (T : TypeId) (g v : Value) (w : World) (Post : Value → World → Prop)
  (hV : ∀ W, (method 461 T g "Version").run Tryz.prog W = .ok (261, natT 2) W) (hT : ∀ W, (method 461 T g "Type").run Tryz.prog W = .ok (260, natT 2) W)
  (hA : ∀ W, (Instr.typeAssert v 20 128 true).run Tryz.prog W = .ok (.tuple #[.nilIface, .bool false]) W) (hG : Hid (Gives 57 (.iface T g) v w Post)) :
  Calls Tryz.prog 27 #[.iface T g, v] w fun e w' => ∃ r, e = .returned (.tuple #[r, .nilIface]) ∧ Post r w' ∧ Ext w w' := by
 go_enter Tryz.func27, Tryz.ntmps27
 go_wp2_with fail
 refine (nt_version _ _).mono ?_
 rintro e w1 ⟨rfl, hx1⟩
 go_wp2_with fail
 refine (nt_type _ _).mono ?_
 rintro e w2 ⟨rfl, hx2⟩
 go_wp2_with fail
 refine (hG.out _ (hx1.trans hx2)).mono ?_
 rintro e w3 ⟨r, rfl, hP, hx3⟩
 go_wp2_with fail
 go_ret2
 exact ⟨r, rfl, hP, (hx1.trans hx2).trans hx3⟩
set_option maxRecDepth 100000 in
theorem disp_5 (T : TypeId) (g v : Value) (w : World) (Post : Value → World → Prop)
  (hV : ∀ W, (method 461 T g "Version").run Tryz.prog W = .ok (261, natT 5) W) (hT : ∀ W, (method 461 T g "Type").run Tryz.prog W = .ok (260, natT 5) W)
  (hA : ∀ W, (Instr.typeAssert v 20 128 true).run Tryz.prog W = .ok (.tuple #[.nilIface, .bool false]) W) (hG : Hid (Gives 57 (.iface T g) v w Post)) :
  Calls Tryz.prog 27 #[.iface T g, v] w fun e w' => ∃ r, e = .returned (.tuple #[r, .nilIface]) ∧ Post r w' ∧ Ext w w' := by
 go_enter Tryz.func27, Tryz.ntmps27
 go_wp2_with fail
 refine (nt_version _ _).mono ?_
 rintro e w1 ⟨rfl, hx1⟩
 go_wp2_with fail
 refine (nt_type _ _).mono ?_
 rintro e w2 ⟨rfl, hx2⟩
 go_wp2_with fail
 refine (hG.out _ (hx1.trans hx2)).mono ?_
 rintro e w3 ⟨r, rfl, hP, hx3⟩
 go_wp2_with fail
 go_ret2
 exact ⟨r, rfl, hP, (hx1.trans hx2).trans hx3⟩
set_option maxRecDepth 100000 in
theorem disp_8 (T : TypeId) (g v : Value) (w : World) (Post : Value → World → Prop)
  (hV : ∀ W, (method 461 T g "Version").run Tryz.prog W = .ok (261, natT 8) W) (hT : ∀ W, (method 461 T g "Type").run Tryz.prog W = .ok (260, natT 8) W)
  (hA : ∀ W, (Instr.typeAssert v 20 128 true).run Tryz.prog W = .ok (.tuple #[.nilIface, .bool false]) W) (hG : Hid (Gives 58 (.iface T g) v w Post)) :
  Calls Tryz.prog 27 #[.iface T g, v] w fun e w' => ∃ r, e = .returned (.tuple #[r, .nilIface]) ∧ Post r w' ∧ Ext w w' := by
 go_enter Tryz.func27, Tryz.ntmps27
 go_wp2_with fail
 refine (nt_version _ _).mono ?_
 rintro e w1 ⟨rfl, hx1⟩
 go_wp2_with fail
 refine (nt_type _ _).mono ?_
 rintro e w2 ⟨rfl, hx2⟩
 go_wp2_with fail
 refine (hG.out _ (hx1.trans hx2)).mono ?_
 rintro e w3 ⟨r, rfl, hP, hx3⟩
 go_wp2_with fail
 go_ret2
 exact ⟨r, rfl, hP, (hx1.trans hx2).trans hx3⟩
set_option maxRecDepth 100000 in
theorem disp_7 (T : TypeId) (g v : Value) (w : World) (Post : Value → World → Prop)
  (hV : ∀ W, (method 461 T g "Version").run Tryz.prog W = .ok (261, natT 7) W) (hT : ∀ W, (method 461 T g "Type").run Tryz.prog W = .ok (260, natT 7) W)
  (hA : ∀ W, (Instr.typeAssert v 20 128 true).run Tryz.prog W = .ok (.tuple #[.nilIface, .bool false]) W) (hG : Hid (Gives 59 (.iface T g) v w Post)) :
  Calls Tryz.prog 27 #[.iface T g, v] w fun e w' => ∃ r, e = .returned (.tuple #[r, .nilIface]) ∧ Post r w' ∧ Ext w w' := by
 go_enter Tryz.func27, Tryz.ntmps27
 go_wp2_with fail
 refine (nt_version _ _).mono ?_
 rintro e w1 ⟨rfl, hx1⟩
 go_wp2_with fail
 refine (nt_type _ _).mono ?_
 rintro e w2 ⟨rfl, hx2⟩
 go_wp2_with fail
 refine (hG.out _ (hx1.trans hx2)).mono ?_
 rintro e w3 ⟨r, rfl, hP, hx3⟩
 go_wp2_with fail
 go_ret2
 exact ⟨r, rfl, hP, (hx1.trans hx2).trans hx3⟩
set_option maxRecDepth 100000 in
theorem disp_6 (T : TypeId) (g v : Value) (w : World) (Post : Value → World → Prop)
  (hV : ∀ W, (method 461 T g "Version").run Tryz.prog W = .ok (261, natT 6) W) (hT : ∀ W, (method 461 T g "Type").run Tryz.prog W = .ok (260, natT 6) W)
  (hA : ∀ W, (Instr.typeAssert v 20 128 true).run Tryz.prog W = .ok (.tuple #[.nilIface, .bool false]) W) (hG : Hid (Gives 60 (.iface T g) v w Post)) :
  Calls Tryz.prog 27 #[.iface T g, v] w fun e w' => ∃ r, e = .returned (.tuple #[r, .nilIface]) ∧ Post r w' ∧ Ext w w' := by
 go_enter Tryz.func27, Tryz.ntmps27
 go_wp2_with fail
 refine (nt_version _ _).mono ?_
 rintro e w1 ⟨rfl, hx1⟩
 go_wp2_with fail
 refine (nt_type _ _).mono ?_
 rintro e w2 ⟨rfl, hx2⟩
 go_wp2_with fail
 refine (hG.out _ (hx1.trans hx2)).mono ?_
 rintro e w3 ⟨r, rfl, hP, hx3⟩
 go_wp2_with fail
 go_ret2
 exact ⟨r, rfl, hP, (hx1.trans hx2).trans hx3⟩
set_option maxRecDepth 100000 in
theorem disp_18 (T : TypeId) (g v : Value) (w : World) (Post : Value → World → Prop)
  (hV : ∀ W, (method 461 T g "Version").run Tryz.prog W = .ok (261, natT 18) W) (hT : ∀ W, (method 461 T g "Type").run Tryz.prog W = .ok (260, natT 18) W)
  (hA : ∀ W, (Instr.typeAssert v 20 128 true).run Tryz.prog W = .ok (.tuple #[.nilIface, .bool false]) W) (hG : Hid (Gives 61 (.iface T g) v w Post)) :
  Calls Tryz.prog 27 #[.iface T g, v] w fun e w' => ∃ r, e = .returned (.tuple #[r, .nilIface]) ∧ Post r w' ∧ Ext w w' := by
 go_enter Tryz.func27, Tryz.ntmps27
 go_wp2_with fail
 refine (nt_version _ _).mono ?_
 rintro e w1 ⟨rfl, hx1⟩
 go_wp2_with fail
 refine (nt_type _ _).mono ?_
 rintro e w2 ⟨rfl, hx2⟩
 go_wp2_with fail
 refine (hG.out _ (hx1.trans hx2)).mono ?_
 rintro e w3 ⟨r, rfl, hP, hx3⟩
 go_wp2_with fail
 go_ret2
 exact ⟨r, rfl, hP, (hx1.trans hx2).trans hx3⟩
set_option maxRecDepth 100000 in
theorem disp_11 (T : TypeId) (g v : Value) (w : World) (Post : Value → World → Prop)
  (hV : ∀ W, (method 461 T g "Version").run Tryz.prog W = .ok (261, natT 11) W) (hT : ∀ W, (method 461 T g "Type").run Tryz.prog W = .ok (260, natT 11) W)
  (hA : ∀ W, (Instr.typeAssert v 20 128 true).run Tryz.prog W = .ok (.tuple #[.nilIface, .bool false]) W) (hG : Hid (Gives 62 (.iface T g) v w Post)) :
  Calls Tryz.prog 27 #[.iface T g, v] w fun e w' => ∃ r, e = .returned (.tuple #[r, .nilIface]) ∧ Post r w' ∧ Ext w w' := by
 go_enter Tryz.func27, Tryz.ntmps27
 go_wp2_with fail
 refine (nt_version _ _).mono ?_
 rintro e w1 ⟨rfl, hx1⟩
 go_wp2_with fail
 refine (nt_type _ _).mono ?_
 rintro e w2 ⟨rfl, hx2⟩
 go_wp2_with fail
 refine (hG.out _ (hx1.trans hx2)).mono ?_
 rintro e w3 ⟨r, rfl, hP, hx3⟩
 go_wp2_with fail
 go_ret2
 exact ⟨r, rfl, hP, (hx1.trans hx2).trans hx3⟩
set_option maxRecDepth 100000 in
theorem disp_32 (T : TypeId) (g v : Value) (w : World) (Post : Value → World → Prop)
  (hV : ∀ W, (method 461 T g "Version").run Tryz.prog W = .ok (261, natT 32) W) (hT : ∀ W, (method 461 T g "Type").run Tryz.prog W = .ok (260, natT 32) W)
  (hA : ∀ W, (Instr.typeAssert v 20 128 true).run Tryz.prog W = .ok (.tuple #[.nilIface, .bool false]) W) (hG : Hid (Gives 63 (.iface T g) v w Post)) :
  Calls Tryz.prog 27 #[.iface T g, v] w fun e w' => ∃ r, e = .returned (.tuple #[r, .nilIface]) ∧ Post r w' ∧ Ext w w' := by
 go_enter Tryz.func27, Tryz.ntmps27
 go_wp2_with fail
 refine (nt_version _ _).mono ?_
 rintro e w1 ⟨rfl, hx1⟩
 go_wp2_with fail
 refine (nt_type _ _).mono ?_
 rintro e w2 ⟨rfl, hx2⟩
 go_wp2_with fail
 refine (hG.out _ (hx1.trans hx2)).mono ?_
 rintro e w3 ⟨r, rfl, hP, hx3⟩
 go_wp2_with fail
 go_ret2
 exact ⟨r, rfl, hP, (hx1.trans hx2).trans hx3⟩
set_option maxRecDepth 100000 in
theorem disp_34 (T : TypeId) (g v : Value) (w : World) (Post : Value → World → Prop)
  (hV : ∀ W, (method 461 T g "Version").run Tryz.prog W = .ok (261, natT 34) W) (hT : ∀ W, (method 461 T g "Type").run Tryz.prog W = .ok (260, natT 34) W)
  (hA : ∀ W, (Instr.typeAssert v 20 128 true).run Tryz.prog W = .ok (.tuple #[.nilIface, .bool false]) W) (hG : Hid (Gives 63 (.iface T g) v w Post)) :
  Calls Tryz.prog 27 #[.iface T g, v] w fun e w' => ∃ r, e = .returned (.tuple #[r, .nilIface]) ∧ Post r w' ∧ Ext w w' := by
 go_enter Tryz.func27, Tryz.ntmps27
 go_wp2_with fail
 refine (nt_version _ _).mono ?_
 rintro e w1 ⟨rfl, hx1⟩
 go_wp2_with fail
 refine (nt_type _ _).mono ?_
 rintro e w2 ⟨rfl, hx2⟩
 go_wp2_with fail
 refine (hG.out _ (hx1.trans hx2)).mono ?_
 rintro e w3 ⟨r, rfl, hP, hx3⟩
 go_wp2_with fail
 go_ret2
 exact ⟨r, rfl, hP, (hx1.trans hx2).trans hx3⟩
set_option maxRecDepth 100000 in
theorem disp_33 (T : TypeId) (g v : Value) (w : World) (Post : Value → World → Prop)
  (hV : ∀ W, (method 461 T g "Version").run Tryz.prog W = .ok (261, natT 33) W) (hT : ∀ W, (method 461 T g "Type").run Tryz.prog W = .ok (260, natT 33) W)
  (hA : ∀ W, (Instr.typeAssert v 20 128 true).run Tryz.prog W = .ok (.tuple #[.nilIface, .bool false]) W) (hG : Hid (Gives 64 (.iface T g) v w Post)) :
  Calls Tryz.prog 27 #[.iface T g, v] w fun e w' => ∃ r, e = .returned (.tuple #[r, .nilIface]) ∧ Post r w' ∧ Ext w w' := by
 go_enter Tryz.func27, Tryz.ntmps27
 go_wp2_with fail
 refine (nt_version _ _).mono ?_
 rintro e w1 ⟨rfl, hx1⟩
 go_wp2_with fail
 refine (nt_type _ _).mono ?_
 rintro e w2 ⟨rfl, hx2⟩
 go_wp2_with fail
 refine (hG.out _ (hx1.trans hx2)).mono ?_
 rintro e w3 ⟨r, rfl, hP, hx3⟩
 go_wp2_with fail
 go_ret2
 exact ⟨r, rfl, hP, (hx1.trans hx2).trans hx3⟩
set_option maxRecDepth 100000 in
theorem disp_12 (T : TypeId) (g v : Value) (w : World) (Post : Value → World → Prop)
  (hV : ∀ W, (method 461 T g "Version").run Tryz.prog W = .ok (261, natT 12) W) (hT : ∀ W, (method 461 T g "Type").run Tryz.prog W = .ok (260, natT 12) W)
  (hA : ∀ W, (Instr.typeAssert v 20 128 true).run Tryz.prog W = .ok (.tuple #[.nilIface, .bool false]) W) (hG : Hid (Gives 65 (.iface T g) v w Post)) :
  Calls Tryz.prog 27 #[.iface T g, v] w fun e w' => ∃ r, e = .returned (.tuple #[r, .nilIface]) ∧ Post r w' ∧ Ext w w' := by
 go_enter Tryz.func27, Tryz.ntmps27
 go_wp2_with fail
 refine (nt_version _ _).mono ?_
 rintro e w1 ⟨rfl, hx1⟩
 go_wp2_with fail
 refine (nt_type _ _).mono ?_
 rintro e w2 ⟨rfl, hx2⟩
 go_wp2_with fail
 refine (hG.out _ (hx1.trans hx2)).mono ?_
 rintro e w3 ⟨r, rfl, hP, hx3⟩
 go_wp2_with fail
 go_ret2
 exact ⟨r, rfl, hP, (hx1.trans hx2).trans hx3⟩
set_option maxRecDepth 100000 in
theorem disp_15 (T : TypeId) (g v : Value) (w : World) (Post : Value → World → Prop)
  (hV : ∀ W, (method 461 T g "Version").run Tryz.prog W = .ok (261, natT 15) W) (hT : ∀ W, (method 461 T g "Type").run Tryz.prog W = .ok (260, natT 15) W)
  (hA : ∀ W, (Instr.typeAssert v 20 128 true).run Tryz.prog W = .ok (.tuple #[.nilIface, .bool false]) W) (hG : Hid (Gives 65 (.iface T g) v w Post)) :
  Calls Tryz.prog 27 #[.iface T g, v] w fun e w' => ∃ r, e = .returned (.tuple #[r, .nilIface]) ∧ Post r w' ∧ Ext w w' := by
 go_enter Tryz.func27, Tryz.ntmps27
 go_wp2_with fail
 refine (nt_version _ _).mono ?_
 rintro e w1 ⟨rfl, hx1⟩
 go_wp2_with fail
 refine (nt_type _ _).mono ?_
 rintro e w2 ⟨rfl, hx2⟩
 go_wp2_with fail
 refine (hG.out _ (hx1.trans hx2)).mono ?_
 rintro e w3 ⟨r, rfl, hP, hx3⟩
 go_wp2_with fail
 go_ret2
 exact ⟨r, rfl, hP, (hx1.trans hx2).trans hx3⟩
set_option maxRecDepth 100000 in
theorem disp_14 (T : TypeId) (g v : Value) (w : World) (Post : Value → World → Prop)
  (hV : ∀ W, (method 461 T g "Version").run Tryz.prog W = .ok (261, natT 14) W) (hT : ∀ W, (method 461 T g "Type").run Tryz.prog W = .ok (260, natT 14) W)
  (hA : ∀ W, (Instr.typeAssert v 20 128 true).run Tryz.prog W = .ok (.tuple #[.nilIface, .bool false]) W) (hG : Hid (Gives 66 (.iface T g) v w Post)) :
  Calls Tryz.prog 27 #[.iface T g, v] w fun e w' => ∃ r, e = .returned (.tuple #[r, .nilIface]) ∧ Post r w' ∧ Ext w w' := by
 go_enter Tryz.func27, Tryz.ntmps27
 go_wp2_with fail
 refine (nt_version _ _).mono ?_
 rintro e w1 ⟨rfl, hx1⟩
 go_wp2_with fail
 refine (nt_type _ _).mono ?_
 rintro e w2 ⟨rfl, hx2⟩
 go_wp2_with fail
 refine (hG.out _ (hx1.trans hx2)).mono ?_
 rintro e w3 ⟨r, rfl, hP, hx3⟩
 go_wp2_with fail
 go_ret2
 exact ⟨r, rfl, hP, (hx1.trans hx2).trans hx3⟩
set_option maxRecDepth 100000 in
theorem disp_16 (T : TypeId) (g v : Value) (w : World) (Post : Value → World → Prop)
  (hV : ∀ W, (method 461 T g "Version").run Tryz.prog W = .ok (261, natT 16) W) (hT : ∀ W, (method 461 T g "Type").run Tryz.prog W = .ok (260, natT 16) W)
  (hA : ∀ W, (Instr.typeAssert v 20 128 true).run Tryz.prog W = .ok (.tuple #[.nilIface, .bool false]) W) (hG : Hid (Gives 67 (.iface T g) v w Post)) :
  Calls Tryz.prog 27 #[.iface T g, v] w fun e w' => ∃ r, e = .returned (.tuple #[r, .nilIface]) ∧ Post r w' ∧ Ext w w' := by
 go_enter Tryz.func27, Tryz.ntmps27
 go_wp2_with fail
 refine (nt_version _ _).mono ?_
 rintro e w1 ⟨rfl, hx1⟩
 go_wp2_with fail
 refine (nt_type _ _).mono ?_
 rintro e w2 ⟨rfl, hx2⟩
 go_wp2_with fail
 refine (hG.out _ (hx1.trans hx2)).mono ?_
 rintro e w3 ⟨r, rfl, hP, hx3⟩
 go_wp2_with fail
 go_ret2
 exact ⟨r, rfl, hP, (hx1.trans hx2).trans hx3⟩
set_option maxRecDepth 100000 in
theorem disp_49 (T : TypeId) (g v : Value) (w : World) (Post : Value → World → Prop)
  (hV : ∀ W, (method 461 T g "Version").run Tryz.prog W = .ok (261, natT 49) W) (hT : ∀ W, (method 461 T g "Type").run Tryz.prog W = .ok (260, natT 49) W)
  (hA : ∀ W, (Instr.typeAssert v 20 128 true).run Tryz.prog W = .ok (.tuple #[.nilIface, .bool false]) W) (hG : Hid (Gives 68 (.iface T g) v w Post)) :
  Calls Tryz.prog 27 #[.iface T g, v] w fun e w' => ∃ r, e = .returned (.tuple #[r, .nilIface]) ∧ Post r w' ∧ Ext w w' := by
 go_enter Tryz.func27, Tryz.ntmps27
 go_wp2_with fail
 refine (nt_version _ _).mono ?_
 rintro e w1 ⟨rfl, hx1⟩
 go_wp2_with fail
 refine (nt_type _ _).mono ?_
 rintro e w2 ⟨rfl, hx2⟩
 go_wp2_with fail
 refine (hG.out _ (hx1.trans hx2)).mono ?_
 rintro e w3 ⟨r, rfl, hP, hx3⟩
 go_wp2_with fail
 go_ret2
 exact ⟨r, rfl, hP, (hx1.trans hx2).trans hx3⟩
set_option maxRecDepth 100000 in
theorem disp_48 (T : TypeId) (g v : Value) (w : World) (Post : Value → World → Prop)
  (hV : ∀ W, (method 461 T g "Version").run Tryz.prog W = .ok (261, natT 48) W) (hT : ∀ W, (method 461 T g "Type").run Tryz.prog W = .ok (260, natT 48) W)
  (hA : ∀ W, (Instr.typeAssert v 20 128 true).run Tryz.prog W = .ok (.tuple #[.nilIface, .bool false]) W) (hG : Hid (Gives 69 (.iface T g) v w Post)) :
  Calls Tryz.prog 27 #[.iface T g, v] w fun e w' => ∃ r, e = .returned (.tuple #[r, .nilIface]) ∧ Post r w' ∧ Ext w w' := by
 go_enter Tryz.func27, Tryz.ntmps27
 go_wp2_with fail
 refine (nt_version _ _).mono ?_
 rintro e w1 ⟨rfl, hx1⟩
 go_wp2_with fail
 refine (nt_type _ _).mono ?_
 rintro e w2 ⟨rfl, hx2⟩
 go_wp2_with fail
 refine (hG.out _ (hx1.trans hx2)).mono ?_
 rintro e w3 ⟨r, rfl, hP, hx3⟩
 go_wp2_with fail
 go_ret2
 exact ⟨r, rfl, hP, (hx1.trans hx2).trans hx3⟩
set_option maxRecDepth 100000 in
theorem disp_17 (T : TypeId) (g v : Value) (w : World) (Post : Value → World → Prop)
  (hV : ∀ W, (method 461 T g "Version").run Tryz.prog W = .ok (261, natT 17) W) (hT : ∀ W, (method 461 T g "Type").run Tryz.prog W = .ok (260, natT 17) W)
  (hA : ∀ W, (Instr.typeAssert v 20 128 true).run Tryz.prog W = .ok (.tuple #[.nilIface, .bool false]) W) (hG : Hid (Gives 70 (.iface T g) v w Post)) :
  Calls Tryz.prog 27 #[.iface T g, v] w fun e w' => ∃ r, e = .returned (.tuple #[r, .nilIface]) ∧ Post r w' ∧ Ext w w' := by
 go_enter Tryz.func27, Tryz.ntmps27
 go_wp2_with fail
 refine (nt_version _ _).mono ?_
 rintro e w1 ⟨rfl, hx1⟩
 go_wp2_with fail
 refine (nt_type _ _).mono ?_
 rintro e w2 ⟨rfl, hx2⟩
 go_wp2_with fail
 refine (hG.out _ (hx1.trans hx2)).mono ?_
 rintro e w3 ⟨r, rfl, hP, hx3⟩
 go_wp2_with fail
 go_ret2
 exact ⟨r, rfl, hP, (hx1.trans hx2).trans hx3⟩
set_option maxRecDepth 100000 in
theorem disp_21 (T : TypeId) (g v : Value) (w : World) (Post : Value → World → Prop)
  (hV : ∀ W, (method 461 T g "Version").run Tryz.prog W = .ok (261, natT 21) W) (hT : ∀ W, (method 461 T g "Type").run Tryz.prog W = .ok (260, natT 21) W)
  (hA : ∀ W, (Instr.typeAssert v 20 128 true).run Tryz.prog W = .ok (.tuple #[.nilIface, .bool false]) W) (hG : Hid (Gives 71 (.iface T g) v w Post)) :
  Calls Tryz.prog 27 #[.iface T g, v] w fun e w' => ∃ r, e = .returned (.tuple #[r, .nilIface]) ∧ Post r w' ∧ Ext w w' := by
 go_enter Tryz.func27, Tryz.ntmps27
 go_wp2_with fail
 refine (nt_version _ _).mono ?_
 rintro e w1 ⟨rfl, hx1⟩
 go_wp2_with fail
 refine (nt_type _ _).mono ?_
 rintro e w2 ⟨rfl, hx2⟩
 go_wp2_with fail
 refine (hG.out _ (hx1.trans hx2)).mono ?_
 rintro e w3 ⟨r, rfl, hP, hx3⟩
 go_wp2_with fail
 go_ret2
 exact ⟨r, rfl, hP, (hx1.trans hx2).trans hx3⟩
end Go.Proofs.YtammjbmfiakbnaaGreatDoor
namespace Go.Proofs.YtammjbmfiakbnaaGreatDoor
open Go.RowKit
/-- The lowest byte of a number. -/
def bt (m : Int) : UInt8 := UInt8.ofNat (m % 256).toNat
theorem bt_nat (m : Int) : ((bt m).toNat : Int) = m % 256 := by
 unfold bt
 rw [UInt8.toNat_ofNat']
 omega
theorem byteV_bt (m : Int) : byteV (bt m) = .int .u8 (m % 256) := by unfold byteV; rw [bt_nat]
/-- A slice that is not nil and reads as l; its array is no variable that holds a slice or a truth value. -/
def Out (l : List UInt8) (r : Value) (w : World) : Prop :=
 ∃ b o c cs t fr, r = .slice (some ⟨b, o, none⟩) l.length c ∧ l.length ≤ c ∧ w.heap[b]? = some (.cells cs t fr) ∧ t ≠ 27 ∧ t ≠ 4 ∧ ∀ j u, (l.map byteV)[j]? = some u → cs[o + j]? = some u
/-- Blocks that are no variables for a slice or a truth value stay as they are. -/
def Keep (w w' : World) : Prop :=
 w.heap.size ≤ w'.heap.size ∧ ∀ (k : Nat) (cs : Array Value) (t : TypeId) (fr : Nat × Nat), w.heap[k]? = some (.cells cs t fr) → t ≠ 27 → t ≠ 4 → w'.heap[k]? = w.heap[k]?
theorem Ext.keep {w w' : World} (h : Ext w w') : Keep w w' := ⟨h.size, fun k _ _ _ hk _ _ => h.block k (by
 rcases Nat.lt_or_ge k w.heap.size with hl | hg
 ·exact hl
 ·rw [Array.getElem?_eq_none hg] at hk; cases hk)⟩
theorem Keep.trans {a b c : World} (h : Keep a b) (k : Keep b c) : Keep a c :=
 ⟨Nat.le_trans h.1 k.1, fun i cs t fr hi h1 h2 => (k.2 i cs t fr ((h.2 i cs t fr hi h1 h2).trans hi) h1 h2).trans (h.2 i cs t fr hi h1 h2)⟩
theorem Keep.setCell {w w' : World} (h : Keep w w') {b : Nat} {t : TypeId} {cs : Array Value} (hb : Blk w' b t cs) (ht : t = 27 ∨ t = 4) (u : Value) : Keep w (w'.setCell ⟨b, 0, none⟩ u) := by
 refine ⟨by simpa [World.setCell] using h.1, fun k cs' t' fr hk h1 h2 => ?_⟩
 have e := h.2 k cs' t' fr hk h1 h2
 have hne : k ≠ b := by
  rintro rfl
  unfold Blk at hb
  rw [e, hk] at hb
  injection hb with hb
  injection hb with _ ht'
  subst ht'
  rcases ht with rfl | rfl
  ·exact h1 rfl
  ·exact h2 rfl
 rw [Below.heap_setCell w' ⟨b, 0, none⟩ u k hne]
 exact e
theorem Out.form {l : List UInt8} {r : Value} {w : World} (h : Out l r w) : ∃ b o c, r = .slice (some ⟨b, o, none⟩) l.length c ∧ l.length ≤ c ∧ b < w.heap.size ∧ ∀ j u, (l.map byteV)[j]? = some u → w.cell? ⟨b, o + j, none⟩ = some u := by
 obtain ⟨b, o, c, cs, t, fr, rfl, hc, hb, h1, h2, hl⟩ := h
 refine ⟨b, o, c, rfl, hc, ?_, fun j u hu => ?_⟩
 ·rcases Nat.lt_or_ge b w.heap.size with hl | hg
  ·exact hl
  ·rw [Array.getElem?_eq_none hg] at hb; cases hb
 ·have := hl j u hu
  simpa [World.cell?, hb] using this
theorem Out.bytes {l : List UInt8} {r : Value} {w : World} (h : Out l r w) : Bytes w r l := by
 obtain ⟨b, o, c, rfl, hc, hb, hl⟩ := h.form
 exact ⟨_, c, rfl, hc, fun _ => ⟨b, o, rfl, hb, hl⟩⟩
theorem Out.keep {l : List UInt8} {r : Value} {w w1 : World} (h : Out l r w) (he : Keep w w1) : Out l r w1 := by
 obtain ⟨b, o, c, cs, t, fr, rfl, hc, hb, h1, h2, hl⟩ := h
 exact ⟨b, o, c, cs, t, fr, rfl, hc, (he.2 b cs t fr hb h1 h2).trans hb, h1, h2, hl⟩
theorem Out.ext {l : List UInt8} {r : Value} {w w1 : World} (h : Out l r w) (he : Ext w w1) : Out l r w1 := h.keep he.keep
theorem Out.of_blk {w : World} {g : Nat} {t : TypeId} {cs : Array Value} (h : Blk w g t cs) {l : List UInt8} {n c : Nat} (h1 : t ≠ 27) (h2 : t ≠ 4) (hn : n = l.length) (hc : l.length ≤ c) (hl : cs.toList.take l.length = l.map byteV) :
  Out l (.slice (some ⟨g, 0, none⟩) n c) w := by
 subst hn
 refine ⟨g, 0, c, cs, t, (0, 0), rfl, hc, h, h1, h2, fun j u hu => ?_⟩
 rw [Nat.zero_add]
 rw [← hl, List.getElem?_take] at hu
 split at hu
 ·simpa using hu
 ·cases hu
set_option maxRecDepth 100000 in
theorem encShort_any (x : Int) (w : World) : Calls Tryz.prog 81 #[.int .i16 x] w fun e w' => ∃ r, e = .returned r ∧ Out [bt (x / 256), bt x] r w' ∧ Ext w w' := by
 have hmk : ∀ W : World, (Instr.makeSlice 27 (.int .i64 2) (.int .i64 2)).run Tryz.prog W = .ok (.slice (some ⟨W.heap.size, 0, none⟩) 2 2) (W.alloc (.cells #[.int .u8 0, .int .u8 0] 5)) := fun _ => by kernel_rfl
 go_enter Tryz.func81, Tryz.ntmps81
 go_wp2
 go_ret
 exact ⟨_, rfl, Out.of_blk (Blk.new _ _ _) (by decide) (by decide) rfl (by simp) (by simp [byteV_bt]), (Ext.refl _).alloc _⟩
set_option maxRecDepth 100000 in
theorem encInt_any (x : Int) (w : World) : Calls Tryz.prog 82 #[.int .i32 x] w fun e w' => ∃ r, e = .returned r ∧ Out [bt (x / 16777216), bt (x / 65536), bt (x / 256), bt x] r w' ∧ Ext w w' := by
 go_enter Tryz.func82, Tryz.ntmps82
 go_wp2
 go_ret
 exact ⟨_, rfl, Out.of_blk (Blk.new _ _ _) (by decide) (by decide) rfl (by simp) (by simp [byteV_bt]), (Ext.refl _).alloc _⟩
end Go.Proofs.YtammjbmfiakbnaaGreatDoor
namespace Go.Proofs.YtammjbmfiakbnaaGreatDoor
open Go.RowKit
theorem catch_idle (p : Addr) (w : World) :
  CallsD Tryz.prog 46 #[.pointer (some p)] .returning w fun e u' w' => e = .returned (.tuple #[]) ∧ u' = .returning ∧ w' = w := by
 refine callsD_of_wpS Tryz.func46 rfl fun c₀ cs hu => ?_
 apply wpS_seq
 apply wpS_region
 simp [wpOpsS, go_sem, recoverD, hu, Tryz.ntmps46, Exit.thenS]
 refine wpS_cond (t := false) (by simp [Act.eval, Array.replicate]) ?_
 simp only [Bool.false_eq_true, if_false]
 refine wpS_of_wp (wp_skip ?_)
 cases c₀
 simp_all [bodyPostS, results, Tryz.results46]
theorem quietly_24 (cap : Array Value) (w : World) (R : World → Prop) (b : Nat) (hsz : w.heap.size = b)
  (h : Calls Tryz.prog 24 cap (w.alloc (.cells #[.bool false] 4)) fun e w' => e = .returned (.tuple #[]) ∧ R w' ∧ Blk w' b 4 #[.bool false]) :
  Calls Tryz.prog 23 #[.func (.func 24) #[] cap] w fun e w' => e = .returned (.bool true) ∧ ∃ w1, R w1 ∧ w' = w1.setCell ⟨b, 0, none⟩ (.bool true) := by
 subst hsz
 have hmf : ∀ (fn : Fn) (first cap : Array Value) (w : World), (Instr.makeFunc fn first cap).run Tryz.prog w = .ok (.func fn first cap) w := fun _ _ _ _ => rfl
 go_enter_defers Tryz.func23, Tryz.ntmps23
 go_wp2_with fail
 refine h.mono ?_
 rintro e w1 ⟨rfl, hR, hb⟩
 obtain ⟨c0, f0⟩ := hb.c1
 go_wp2_with fail
 refine leaves_cons (f := 46) (args := #[.pointer (some ⟨w.heap.size, 0, none⟩)]) (by simp) (by simp [go_sem]) ?_
 refine (catch_idle ⟨w.heap.size, 0, none⟩ _).mono ?_
 rintro e u' w'' ⟨rfl, rfl, rfl⟩
 have c1 : (w1.setCell ⟨w.heap.size, 0, none⟩ (.bool true)).cell? ⟨w.heap.size, 0, none⟩ = some (.bool true) := World.cell?_setCell_same _ _ _ c0
 simp [Leaves, settle, results, Tryz.results23, go_sem, c1]
 exact ⟨w1, hR, rfl⟩
end Go.Proofs.YtammjbmfiakbnaaGreatDoor
