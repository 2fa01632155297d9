/- A part of the proof that the card of laws.FnMarshal holds. No conditions. -/
import Derived.Test.YtammjbmfiakbnaaGreatDoorM08
import Derived.Deep.CutBlock
import Derived.Deep.CutRange
import Derived.Test.YtammjbmfiakbnaaGreatDoorM05
set_option linter.unusedSimpArgs false
set_option linter.unusedVariables false
namespace Go.Proofs.YtammjbmfiakbnaaGreatDoor
open Go.RowKit
/-- io.EOF's variable holds an error of errors.New. -/
def EofAt (w : World) : Prop := 2 < w.heap.size ∧ ∃ A : Addr, w.cell? ⟨2, 0, none⟩ = some (.iface 196 (.pointer (some A)))
theorem EofAt.ext {w w' : World} (h : EofAt w) (he : Ext w w') : EofAt w' := by
 obtain ⟨h1, A, h2⟩ := h
 exact ⟨by have := he.size; omega, A, he.cellS h2⟩
theorem SegR.toSeg {X : Nat → Prop} {w : World} {A : Option Addr} {xs : List Value} (h : SegR X w A xs) : Seg w A xs := fun hn => by
 obtain ⟨b, o, e, hb, -, hc⟩ := h hn
 exact ⟨b, o, e, hb, hc⟩
set_option maxRecDepth 100000 in
theorem given_nul (n m m2 : Nat) (w : World) (tv : Value) (T : Ty) (vs : List Value) (V : Vl) (hT : TyAt (fun _ => False) m w tv T) (hV : VlAt (fun _ => False) m2 w vs V) (hn : V.sc.nul = true) :
  Calls Tryz.prog 26 #[tv, .agg vs.toArray] w (GivPost (n + 1) T V w) := by
 obtain ⟨B, bc, B', bc', rfl⟩ := hT.form
 obtain ⟨A, c, A1, c1, A2, c2, rfl, -⟩ := hV.form
 have HN := Lib.hid hn
 simp only [vcells]
 rw [hn]
 clear hT hV hn
 go_enter Tryz.func26, Tryz.ntmps26
 go_wp2_with fail
 go_ret2
 exact ⟨.nilIface, rfl, .inl ⟨HN.out, rfl⟩, ((Ext.refl w).alloc _).alloc _⟩
theorem kinds20 (k : Int) (h : 1 ≤ k ∧ k ≤ 21 ∧ k ≠ 10) : k = 1 ∨ k = 2 ∨ k = 3 ∨ k = 4 ∨ k = 5 ∨ k = 6 ∨ k = 7 ∨ k = 8 ∨ k = 9 ∨ k = 11 ∨ k = 12 ∨ k = 13 ∨ k = 14 ∨ k = 15 ∨ k = 16 ∨ k = 17 ∨ k = 18 ∨ k = 19 ∨ k = 20 ∨ k = 21 := by
 obtain ⟨m, rfl⟩ : ∃ m : Fin 22, k = (m.val : Int) := ⟨⟨k.toNat, by omega⟩, by simp; omega⟩
 revert h
 revert m
 decide
set_option maxHeartbeats 1000000 in
theorem given_leaf (n m m2 : Nat) (w : World) (tv : Value) (T : Ty) (vs : List Value) (V : Vl) (hT : TyAt (fun _ => False) m w tv T) (hV : VlAt (fun _ => False) m2 w vs V) (hG : Good (n + 1) T) (hn : V.sc.nul = false) (hg : GoodV (n + 1) T V) (hk : T.kind < 32) (hE : EofAt w) :
  Calls Tryz.prog 26 #[tv, .agg vs.toArray] w (GivPost (n + 1) T V w) := by
 obtain ⟨B, bc, B', bc', rfl⟩ := hT.form
 cases m2 with
 |zero => exact hV.elim
 |succ m2 =>
 obtain ⟨A, c, A1, c1, A2, c2, rfl, q1, q2, q3, q4, q5, q6, hs, hd, -, -⟩ := hV
 have hdS := hd.toSeg
 obtain ⟨e1, eA, eE⟩ := hE
 have hgs : GoodS T.kind V.sc := by
  obtain ⟨_, _, h⟩ := hg
  rcases h with ⟨_, _, _, h⟩ | ⟨h, _⟩ | ⟨h, _⟩ | ⟨h, _⟩
  ·exact h
  ·omega
  ·omega
  ·omega
 have hkk : 1 ≤ T.kind ∧ T.kind ≤ 21 ∧ T.kind ≠ 10 := by
  rcases hG.2 with ⟨h, _⟩ | ⟨h, _⟩ | ⟨h, _⟩ | ⟨h, _⟩ | ⟨h1, h2, h3, _⟩
  ·omega
  ·omega
  ·omega
  ·omega
  ·exact ⟨h1, h2, h3⟩
 obtain ⟨g1, g2, g3, g4, g5, g6, g7, g8, g9, g10, g11, g12, g13⟩ := hgs
 simp only [vcells]
 rw [hn]
 have fin : ∀ {e : Ending} {w' : World} (G : Value), e = .returned (.tuple #[G, .bool true]) → GivS (Bel w.heap.size) w' T.kind V.sc G → Ext w w' → GivPost (n + 1) T V w e w' := fun G h1 h2 h3 => ⟨G, h1, .inr ⟨hn, .inl ⟨hk, h2⟩⟩, h3⟩
 have hcase := kinds20 T.kind hkk
 rcases hcase with hc | hc | hc | hc | hc | hc | hc | hc | hc | hc | hc | hc | hc | hc | hc | hc | hc | hc | hc | hc
 ·rw [hc]
  refine Calls.mono (given_1 _ _ _ _ _ _ _ _ _ _ _ _ w) ?_
  rintro e w' ⟨he, hx⟩
  exact fin _ he (.inl (⟨(.inl hc), rfl⟩)) hx
 ·rw [hc]
  refine Calls.mono (given_2 _ _ _ _ _ _ _ _ _ _ _ _ w) ?_
  rintro e w' ⟨he, hx⟩
  exact fin _ he (.inr (.inr (.inr (.inr (.inr (.inr (.inr (.inl (⟨(.inl hc), rfl⟩))))))))) hx
 ·have hl100 : V.sc.data.length ≤ 100 := (g2 hc)
  rw [hc]
  refine Calls.mono (given_3 _ _ _ _ _ _ _ _ _ _ _ A V.sc.data hl100 c w hdS) ?_
  rintro e w' ⟨g, cap, he, ho, hx⟩
  exact fin _ he (.inr (.inl (⟨hc, _, rfl, own_datR ho⟩))) hx
 ·rw [hc]
  rcases g8 hc with h0 | h0
  ·refine Calls.mono (given_4f _ _ _ _ _ _ _ _ _ _ _ _ h0 w) ?_
   rintro e w' ⟨he, hx⟩
   exact fin _ he (.inr (.inr (.inr (.inl (⟨hc, by rw [h0]; rfl⟩))))) hx
  ·refine Calls.mono (given_4t _ _ _ _ _ _ _ _ _ _ _ _ h0 w) ?_
   rintro e w' ⟨he, hx⟩
   exact fin _ he (.inr (.inr (.inr (.inl (⟨hc, by rw [h0]; rfl⟩))))) hx
 ·rw [hc]
  refine Calls.mono (given_5 _ _ _ _ _ _ _ _ _ _ _ _ w) ?_
  rintro e w' ⟨he, hx⟩
  exact fin _ he (.inr (.inr (.inr (.inr (.inr (.inr (.inr (.inl (⟨(.inr (.inl hc)), rfl⟩))))))))) hx
 ·rw [hc]
  refine Calls.mono (given_6 _ _ _ _ _ _ _ _ _ _ V.sc.text (g11 (.inr hc)) V.sc.scale (g12 hc) eA w e1 eE) ?_
  rintro e w' ⟨g, z, he, hb, hx⟩
  exact fin _ he (.inr (.inr (.inr (.inr (.inr (.inr (.inr (.inr (.inr (.inr (.inr (.inr (.inl (⟨hc, g, z, rfl, hb.toR⟩)))))))))))))) hx
 ·rw [hc]
  refine Calls.mono (given_7 _ _ _ _ _ _ _ _ _ _ _ _ w) ?_
  rintro e w' ⟨he, hx⟩
  exact fin _ he (.inr (.inr (.inr (.inr (.inr (.inr (.inr (.inr (.inr (.inr (.inl (⟨hc, rfl⟩)))))))))))) hx
 ·rw [hc]
  refine Calls.mono (given_8 _ _ _ _ _ _ _ _ _ _ _ _ (g10 (.inr hc)) w) ?_
  rintro e w' ⟨he, hx⟩
  exact fin _ he (.inr (.inr (.inr (.inr (.inr (.inr (.inr (.inr (.inr (.inl (⟨hc, rfl⟩))))))))))) hx
 ·obtain ⟨p1, p2⟩ := g5 hc
  rw [hc]
  refine Calls.mono (given_9 _ _ _ _ _ _ _ _ _ _ _ _ (by omega) (by omega) w) ?_
  rintro e w' ⟨he, hx⟩
  exact fin _ he (.inr (.inr (.inr (.inr (.inr (.inr (.inl (⟨hc, rfl⟩)))))))) hx
 ·rw [hc]
  refine Calls.mono (given_11 _ _ _ _ _ _ _ _ _ _ _ _ w) ?_
  rintro e w' ⟨he, hx⟩
  exact fin _ he (.inr (.inr (.inr (.inr (.inr (.inr (.inr (.inl (⟨(.inr (.inr (.inl hc))), rfl⟩))))))))) hx
 ·have hl16 := g3 (.inl hc)
  rw [hc, hl16]
  refine Calls.mono (given_12 _ _ _ _ _ _ _ _ _ _ _ A V.sc.data hl16 c w hdS) ?_
  rintro e w' ⟨he, hx⟩
  exact fin _ he (.inr (.inr (.inr (.inr (.inr (.inr (.inr (.inr (.inr (.inr (.inr (.inr (.inr (.inl (⟨(.inl hc), rfl⟩))))))))))))))) hx
 ·rw [hc]
  refine Calls.mono (given_13 _ _ _ _ _ _ _ _ _ _ _ _ w) ?_
  rintro e w' ⟨he, hx⟩
  exact fin _ he (.inl (⟨(.inr hc), rfl⟩)) hx
 ·rw [hc]
  refine Calls.mono (given_14 _ _ _ _ _ _ _ _ _ _ _ V.sc.text (g11 (.inl hc)) eA w e1 eE) ?_
  rintro e w' ⟨g, z, he, hb, hx⟩
  exact fin _ he (.inr (.inr (.inr (.inr (.inr (.inr (.inr (.inr (.inr (.inr (.inr (.inl (⟨hc, g, z, rfl, hb.toR⟩))))))))))))) hx
 ·have hl16 := g3 (.inr hc)
  rw [hc, hl16]
  refine Calls.mono (given_15 _ _ _ _ _ _ _ _ _ _ _ A V.sc.data hl16 c w hdS) ?_
  rintro e w' ⟨he, hx⟩
  exact fin _ he (.inr (.inr (.inr (.inr (.inr (.inr (.inr (.inr (.inr (.inr (.inr (.inr (.inr (.inl (⟨(.inr hc), rfl⟩))))))))))))))) hx
 ·have hl100 : V.sc.data.length ≤ 100 := (by rcases g4 hc with h | h <;> omega)
  rw [hc]
  refine Calls.mono (given_16 _ _ _ _ _ _ _ _ _ _ _ A V.sc.data hl100 c w hdS) ?_
  rintro e w' ⟨g, cap, he, ho, hx⟩
  exact fin _ he (.inr (.inr (.inl (⟨hc, _, rfl, own_datR ho⟩)))) hx
 ·obtain ⟨p1, p2⟩ := g9 hc
  rw [hc]
  refine Calls.mono (given_17 _ _ _ _ _ _ _ _ _ _ _ _ p1 p2 w) ?_
  rintro e w' ⟨he, hx⟩
  exact fin _ he (.inr (.inr (.inr (.inr (.inr (.inr (.inr (.inr (.inl (⟨hc, rfl⟩)))))))))) hx
 ·rw [hc]
  refine Calls.mono (given_18 _ _ _ _ _ _ _ _ _ _ _ _ w) ?_
  rintro e w' ⟨he, hx⟩
  exact fin _ he (.inr (.inr (.inr (.inr (.inr (.inr (.inr (.inl (⟨(.inr (.inr (.inr hc))), rfl⟩))))))))) hx
 ·obtain ⟨p1, p2⟩ := g6 hc
  rw [hc]
  refine Calls.mono (given_19 _ _ _ _ _ _ _ _ _ _ _ _ (by omega) (by omega) w) ?_
  rintro e w' ⟨he, hx⟩
  exact fin _ he (.inr (.inr (.inr (.inr (.inr (.inl (⟨hc, rfl⟩))))))) hx
 ·obtain ⟨p1, p2⟩ := g7 hc
  rw [hc]
  refine Calls.mono (given_20 _ _ _ _ _ _ _ _ _ _ _ _ (by omega) (by omega) w) ?_
  rintro e w' ⟨he, hx⟩
  exact fin _ he (.inr (.inr (.inr (.inr (.inl (⟨hc, rfl⟩)))))) hx
 ·obtain ⟨p1, p2, p3, p4⟩ := g13 hc
  rw [hc]
  refine Calls.mono (given_21 _ _ _ _ _ _ _ _ _ _ _ _ ⟨p1, p2⟩ ⟨p3, p4⟩ w) ?_
  rintro e w' ⟨he, hx⟩
  exact fin _ he (.inr (.inr (.inr (.inr (.inr (.inr (.inr (.inr (.inr (.inr (.inr (.inr (.inr (.inr (⟨hc, rfl⟩))))))))))))))) hx
end Go.Proofs.YtammjbmfiakbnaaGreatDoor
namespace Go.Proofs.YtammjbmfiakbnaaGreatDoor
open Go.RowKit
theorem run_store_float {P : Program} {w : World} {a : Addr} {m : Mode} (k : FloatKind) (b : Nat) : (store a (.float k b) m).run P w = stored P w a (.float k b) m := run_store P w a _ m rfl
attribute [local go_sem] run_store_float
/-- What bare's switch leaves. -/
def BareW (cs : List Value) (w w' : World) (p : Nat) : Prop :=
 ∃ (a0 : Bool) (a1 : Int) (a2 : Nat) (a3 : ByteArray) (A : Option Addr) (l c : Nat) (a5 a6 a7 a8 : Int) (A1 : Option Addr) (l1 c1 : Nat) (A2 : Option Addr) (l2 c2 : Nat),
  Blk w' p 39 #[.bool a0, .int .i64 a1, .float .f64 a2, .string a3, .slice A l c, .int .i64 a5, .int .i64 a6, .int .i64 a7, .int .i64 a8, .slice A1 l1 c1, .slice A2 l2 c2] ∧ Blk w' w.heap.size 39 cs.toArray ∧ Ext w w'
theorem BareW.drew {cs : List Value} {w w' : World} {p : Nat} (h : BareW cs w w' p) : BareW cs w w'.drew p := by
 obtain ⟨a0, a1, a2, a3, A, l, c, a5, a6, a7, a8, A1, l1, c1, A2, l2, c2, h1, h2, h3⟩ := h
 exact ⟨a0, a1, a2, a3, A, l, c, a5, a6, a7, a8, A1, l1, c1, A2, l2, c2, h1, h2, h3.drew⟩
theorem BareW.set1 {cs : List Value} {w w' : World} (h : BareW cs w w' (w.heap.size + 1)) (x : Int) : BareW cs w (w'.setCell ⟨w.heap.size + 1, 1, none⟩ (.int .i64 x)) (w.heap.size + 1) := by
 obtain ⟨a0, a1, a2, a3, A, l, c, a5, a6, a7, a8, A1, l1, c1, A2, l2, c2, h1, h2, h3⟩ := h
 exact ⟨a0, x, a2, a3, A, l, c, a5, a6, a7, a8, A1, l1, c1, A2, l2, c2, h1.set_ 1 _, h2.off (by omega) _, h3.setCell (by simp) _⟩
theorem BareW.set2 {cs : List Value} {w w' : World} (h : BareW cs w w' (w.heap.size + 1)) (x : Nat) : BareW cs w (w'.setCell ⟨w.heap.size + 1, 2, none⟩ (.float .f64 x)) (w.heap.size + 1) := by
 obtain ⟨a0, a1, a2, a3, A, l, c, a5, a6, a7, a8, A1, l1, c1, A2, l2, c2, h1, h2, h3⟩ := h
 exact ⟨a0, a1, x, a3, A, l, c, a5, a6, a7, a8, A1, l1, c1, A2, l2, c2, h1.set_ 2 _, h2.off (by omega) _, h3.setCell (by simp) _⟩
theorem BareW.set3 {cs : List Value} {w w' : World} (h : BareW cs w w' (w.heap.size + 1)) (x : ByteArray) : BareW cs w (w'.setCell ⟨w.heap.size + 1, 3, none⟩ (.string x)) (w.heap.size + 1) := by
 obtain ⟨a0, a1, a2, a3, A, l, c, a5, a6, a7, a8, A1, l1, c1, A2, l2, c2, h1, h2, h3⟩ := h
 exact ⟨a0, a1, a2, x, A, l, c, a5, a6, a7, a8, A1, l1, c1, A2, l2, c2, h1.set_ 3 _, h2.off (by omega) _, h3.setCell (by simp) _⟩
theorem BareW.set5 {cs : List Value} {w w' : World} (h : BareW cs w w' (w.heap.size + 1)) (x : Int) : BareW cs w (w'.setCell ⟨w.heap.size + 1, 5, none⟩ (.int .i64 x)) (w.heap.size + 1) := by
 obtain ⟨a0, a1, a2, a3, A, l, c, a5, a6, a7, a8, A1, l1, c1, A2, l2, c2, h1, h2, h3⟩ := h
 exact ⟨a0, a1, a2, a3, A, l, c, x, a6, a7, a8, A1, l1, c1, A2, l2, c2, h1.set_ 5 _, h2.off (by omega) _, h3.setCell (by simp) _⟩
theorem BareW.set6 {cs : List Value} {w w' : World} (h : BareW cs w w' (w.heap.size + 1)) (x : Int) : BareW cs w (w'.setCell ⟨w.heap.size + 1, 6, none⟩ (.int .i64 x)) (w.heap.size + 1) := by
 obtain ⟨a0, a1, a2, a3, A, l, c, a5, a6, a7, a8, A1, l1, c1, A2, l2, c2, h1, h2, h3⟩ := h
 exact ⟨a0, a1, a2, a3, A, l, c, a5, x, a7, a8, A1, l1, c1, A2, l2, c2, h1.set_ 6 _, h2.off (by omega) _, h3.setCell (by simp) _⟩
theorem BareW.set7 {cs : List Value} {w w' : World} (h : BareW cs w w' (w.heap.size + 1)) (x : Int) : BareW cs w (w'.setCell ⟨w.heap.size + 1, 7, none⟩ (.int .i64 x)) (w.heap.size + 1) := by
 obtain ⟨a0, a1, a2, a3, A, l, c, a5, a6, a7, a8, A1, l1, c1, A2, l2, c2, h1, h2, h3⟩ := h
 exact ⟨a0, a1, a2, a3, A, l, c, a5, a6, x, a8, A1, l1, c1, A2, l2, c2, h1.set_ 7 _, h2.off (by omega) _, h3.setCell (by simp) _⟩
theorem BareW.set8 {cs : List Value} {w w' : World} (h : BareW cs w w' (w.heap.size + 1)) (x : Int) : BareW cs w (w'.setCell ⟨w.heap.size + 1, 8, none⟩ (.int .i64 x)) (w.heap.size + 1) := by
 obtain ⟨a0, a1, a2, a3, A, l, c, a5, a6, a7, a8, A1, l1, c1, A2, l2, c2, h1, h2, h3⟩ := h
 exact ⟨a0, a1, a2, a3, A, l, c, a5, a6, a7, x, A1, l1, c1, A2, l2, c2, h1.set_ 8 _, h2.off (by omega) _, h3.setCell (by simp) _⟩
set_option maxRecDepth 100000 in
set_option maxHeartbeats 4000000 in
theorem bare_any (k : Int) (X : Nat → Prop) (m : Nat) (v : List Value) (V : Vl) (w : World) (h : VlAt X m w v V) :
  Calls Tryz.prog 39 #[.int .i64 k, .agg v.toArray] w (AnsB (fun b => b = true → 32 ≤ k ∨ (V.kids = [] ∧ V.keys = [])) w) := by
 obtain ⟨A, c, A1, c1, A2, c2, rfl, hs⟩ := h.form
 clear h hs
 simp only [vcells]
 go_enter Tryz.func39, Tryz.ntmps39
 go_upto_region 1 with fail
 generalize hW0 : World.alloc w _ = W0
 have hb0 : Blk W0 w.heap.size 39 (vcells V.sc A c A1 V.keys.length c1 A2 V.kids.length c2).toArray := hW0 ▸ Blk.new w 39 _
 have hs0 : W0.heap.size = w.heap.size + 1 := by rw [← hW0]; simp
 have hE0 : Ext w W0 := hW0 ▸ (Ext.refl w).alloc _
 clear hW0
 refine wp_region_lit ?_
 iterate 2 (refine wpList_plain rfl (fun K hK => ?_); go_simp; refine hK _ _ ?_; clear hK K; try simp only [aP, aN, aT, aZ, aS])
 refine wpList_store_mid rfl 39 _ _ rfl (w.heap.size + 1) 0 #[.bool false, .int .i64 0, .float .f64 0, .string ⟨#[]⟩, .slice none 0 0, .int .i64 0, .int .i64 0, .int .i64 0, .int .i64 0, .slice none 0 0, .slice none 0 0] (by rfl) (by rfl) ((Blk.new' W0 (w.heap.size + 1) 39 #[.bool false, .int .i64 0, .float .f64 0, .string ⟨#[]⟩, .slice none 0 0, .int .i64 0, .int .i64 0, .int .i64 0, .int .i64 0, .slice none 0 0, .slice none 0 0] hs0.symm).there rfl) hi39 (by simp [Value.oneCell']) ?_
 generalize hW1 : World.setCells _ _ _ _ = W1
 have hcs : BareW (vcells V.sc A c A1 V.keys.length c1 A2 V.kids.length c2) w W1 (w.heap.size + 1) := by
  rw [← hW1]
  exact ⟨false, 0, 0, ⟨#[]⟩, none, 0, 0, 0, 0, 0, 0, none, 0, 0, none, 0, 0, Blk.setCells (Blk.new' W0 (w.heap.size + 1) 39 #[.bool false, .int .i64 0, .float .f64 0, .string ⟨#[]⟩, .slice none 0 0, .int .i64 0, .int .i64 0, .int .i64 0, .int .i64 0, .slice none 0 0, .slice none 0 0] hs0.symm) rfl,
   (setCells_heap _ _ _ _ _ (by omega)).trans (hb0.alloc _), setCells_ext (by omega) _ _ _ (hE0.alloc _)⟩
 have Hcs := Lib.hid hcs
 clear hW1 hcs hb0 hs0 hE0
 go_upto_block 0 with fail
 go_cut [] from 9 (fun w' => BareW (vcells V.sc A c A1 V.keys.length c1 A2 V.kids.length c2) w w' (w.heap.size + 1))
 case first =>
  obtain ⟨a0, a1, a2, a3, B, l, cc, a5, a6, a7, a8, B1, l1, cc1, B2, l2, cc2, hB, hV, hE⟩ := Hcs.out
  have hV' : Blk W1 w.heap.size 39 #[.bool V.sc.nul, .int .i64 V.sc.n, .float .f64 V.sc.f, .string V.sc.text, .slice A V.sc.data.length c, .int .i64 V.sc.scale, .int .i64 V.sc.months, .int .i64 V.sc.days, .int .i64 V.sc.nanos, .slice A1 V.keys.length c1, .slice A2 V.kids.length c2] := hV
  obtain ⟨d0, d1, d2, d3, d4, d5, d6, d7, d8, d9, d10⟩ := hV'.c11
  obtain ⟨e0, e1, e2, e3, e4, e5, e6, e7, e8, e9, e10⟩ := hB.c11
  have ef : ∀ i, W1.frozen? ⟨w.heap.size + 1, i, none⟩ = false := fun i => hB.frozen i
  have hlt := hB.lt
  clear hB hV hV' hE
  by_cases k6 : k = 6
  ·subst k6
   go_wp2_with fail
   go_region
   all_goals
    go_wp2_with fail
    go_meet
    case rel => first | exact ((Hcs.out.drew).set3 _).set5 _ | exact ((Hcs.out.drew).set5 _).set3 _
  ·by_cases k21 : k = 21
   ·subst k21
    go_wp2_with fail
    go_region
    all_goals
     go_wp2_with fail
     go_meet
     case rel => first | exact (((Hcs.out.drew).set6 _).set7 _).set8 _ | exact (((Hcs.out.drew).set6 _).set8 _).set7 _ | exact (((Hcs.out.drew).set7 _).set6 _).set8 _ | exact (((Hcs.out.drew).set7 _).set8 _).set6 _ | exact (((Hcs.out.drew).set8 _).set6 _).set7 _ | exact (((Hcs.out.drew).set8 _).set7 _).set6 _
   ·have t6 : (k == 6) = false := by simp [k6]
    have t21 : (k == 21) = false := by simp [k21]
    clear k6 k21
    go_wp2_with fail
    all_goals
     go_meet
     case rel => first | exact Hcs.out | exact Hcs.out.set3 _ | exact Hcs.out.set1 _ | exact Hcs.out.set2 _
 case rest =>
  clear Hcs
  obtain ⟨a0, a1, a2, a3, B, l, cc, a5, a6, a7, a8, B1, l1, cc1, B2, l2, cc2, hB, hV, hE⟩ := hcut
  have hV' : Blk wc w.heap.size 39 #[.bool V.sc.nul, .int .i64 V.sc.n, .float .f64 V.sc.f, .string V.sc.text, .slice A V.sc.data.length c, .int .i64 V.sc.scale, .int .i64 V.sc.months, .int .i64 V.sc.days, .int .i64 V.sc.nanos, .slice A1 V.keys.length c1, .slice A2 V.kids.length c2] := hV
  obtain ⟨d0, d1, d2, d3, d4, d5, d6, d7, d8, d9, d10⟩ := hV'.c11
  obtain ⟨e0, e1, e2, e3, e4, e5, e6, e7, e8, e9, e10⟩ := hB.c11
  have HE := Lib.hid hE
  clear hB hV hV' hE
  obtain ⟨wd, hwd⟩ : ∃ x, x = wc := ⟨wc, rfl⟩
  subst hwd
  go_upto_region 24 with fail
  go_cut [0, 1, 6] from 55 (fun v0 _ v w' => w' = wd ∧ v0 = .int .i64 k ∧ ∃ b : Bool, v = .bool b)
  case first =>
   go_wp2_with fail
   all_goals
    go_meet
    case rel => exact ⟨rfl, by first | rfl | simp [*], _, rfl⟩
  case rest =>
   obtain ⟨hwc, hk0, b6, hb6⟩ := hcut
   subst hwc
   subst hb6
   subst hk0
   obtain ⟨wd, hwd⟩ : ∃ x, x = wc := ⟨wc, rfl⟩
   subst hwd
   go_upto_region 25 with fail
   go_cut [0, 7] from 75 (fun _ v w' => w' = wd ∧ ∃ b : Bool, v = .bool b ∧ Hid (b = true → 32 ≤ k ∨ (V.kids = [] ∧ V.keys = [])))
   case first =>
    by_cases g1 : V.kids = []
    ·by_cases g2 : V.keys = []
     ·have Hg := Lib.hid (show 32 ≤ k ∨ (V.kids = [] ∧ V.keys = []) from .inr ⟨g1, g2⟩)
      have f1 : ((V.kids.length : Int) == 0) = true := by simp [g1]
      have f2 : ((V.keys.length : Int) == 0) = true := by simp [g2]
      clear g1 g2
      go_wp2_with fail
      all_goals
       go_meet
       case rel => exact ⟨rfl, _, rfl, Lib.hid (fun _ => Hg.out)⟩
     ·have f1 : ((V.kids.length : Int) == 0) = true := by simp [g1]
      have f2 : ((V.keys.length : Int) == 0) = false := by
       cases h : V.keys with
       |nil => exact absurd h g2
       |cons x l => simp; omega
      clear g1 g2
      by_cases g3 : 32 ≤ k
      ·have Hg := Lib.hid (show 32 ≤ k ∨ (V.kids = [] ∧ V.keys = []) from .inl g3)
       go_wp2_with fail
       all_goals
        go_meet
        case rel => exact ⟨rfl, _, rfl, Lib.hid (fun _ => Hg.out)⟩
      ·go_wp2_with fail
       all_goals
        go_meet
        case rel => exact ⟨rfl, false, by simp [*], Lib.hid (fun h => by simp at h)⟩
    ·have f1 : ((V.kids.length : Int) == 0) = false := by
      cases h : V.kids with
      |nil => exact absurd h g1
      |cons x l => simp; omega
     clear g1
     by_cases g3 : 32 ≤ k
     ·have Hg := Lib.hid (show 32 ≤ k ∨ (V.kids = [] ∧ V.keys = []) from .inl g3)
      go_wp2_with fail
      all_goals
       go_meet
       case rel => exact ⟨rfl, _, rfl, Lib.hid (fun _ => Hg.out)⟩
     ·go_wp2_with fail
      all_goals
       go_meet
       case rel => exact ⟨rfl, false, by simp [*], Lib.hid (fun h => by simp at h)⟩
   case rest =>
    obtain ⟨hwc, b7, hb7, Hg⟩ := hcut
    subst hwc
    subst hb7
    cases b6 with
    |false =>
     go_wp2_with fail
     go_ret
     exact AnsB.mk (by simp) HE.out
    |true =>
     cases b7 with
     |false =>
      go_wp2_with fail
      go_ret
      exact AnsB.mk (by simp) HE.out
     |true =>
      cases qn : (V.sc.n == a1) with
      |false =>
       go_wp2_with fail
       go_ret
       exact AnsB.mk (by simp) HE.out
      |true =>
       cases qf : (FloatKind.f64.format.order V.sc.f a2 == some .eq) with
       |false =>
        go_wp2_with fail
        go_ret
        exact AnsB.mk (by simp) HE.out
       |true =>
        cases qt : (V.sc.text.toList == a3.toList) with
        |false =>
         go_wp2_with fail
         go_ret
         exact AnsB.mk (by simp) HE.out
        |true =>
         cases qs : (V.sc.scale == a5) with
         |false =>
          go_wp2_with fail
          go_ret
          exact AnsB.mk (by simp) HE.out
         |true =>
          cases qm : (V.sc.months == a6) with
          |false =>
           go_wp2_with fail
           go_ret
           exact AnsB.mk (by simp) HE.out
          |true =>
           cases qd : (V.sc.days == a7) with
           |false =>
            go_wp2_with fail
            go_ret
            exact AnsB.mk (by simp) HE.out
           |true =>
            cases qx : (V.sc.nanos == a8) with
            |false =>
             go_wp2_with fail
             go_ret
             exact AnsB.mk (by simp) HE.out
            |true =>
             go_wp2_with fail
             go_ret
             exact AnsB.mk (fun _ => Hg.out (by simp)) HE.out
end Go.Proofs.YtammjbmfiakbnaaGreatDoor
namespace Go.Proofs.YtammjbmfiakbnaaGreatDoor
open Go.RowKit
theorem kinds_of {T : Ty} (h : Shape T) : 32 ≤ T.kind ∨ T.kind = 1 ∨ T.kind = 2 ∨ T.kind = 3 ∨ T.kind = 4 ∨ T.kind = 5 ∨ T.kind = 6 ∨ T.kind = 7 ∨ T.kind = 8 ∨ T.kind = 9 ∨ T.kind = 11 ∨ T.kind = 12 ∨ T.kind = 13 ∨ T.kind = 14 ∨ T.kind = 15 ∨ T.kind = 16 ∨ T.kind = 17 ∨ T.kind = 18 ∨ T.kind = 19 ∨ T.kind = 20 ∨ T.kind = 21 := by
 unfold Shape at h
 omega
theorem kinds_of2 {T : Ty} (h : Shape T) (hk : 32 ≤ T.kind) : T.kind = 32 ∨ T.kind = 33 ∨ T.kind = 34 ∨ T.kind = 48 ∨ T.kind = 49 := by
 unfold Shape at h
 omega
theorem goodV_leaf {n : Nat} {T : Ty} {V : Vl} {k : Int} (h0 : V.sc.nul = false) (hk : T.kind = k) (hk' : k < 32) (h : 32 ≤ T.kind ∨ (V.kids = [] ∧ V.keys = [])) (hs : GoodS k V.sc) : GoodV (n + 1) T V := by
 have h : V.kids = [] ∧ V.keys = [] := h.resolve_left (by omega)
 exact ⟨h0, by rw [h.1]; exact Nat.zero_le _, .inl ⟨by omega, h.1, h.2, hk ▸ hs⟩⟩
/-- properKids: what it says yes to is good. -/
def KidsP (n : Nat) : Prop := ∀ (m m2 : Nat) (w : World) (tv : Value) (T : Ty) (vs : List Value) (V : Vl), TyAt (fun _ => False) m w tv T → VlAt (fun _ => False) m2 w vs V → Good (n + 1) T → 32 ≤ T.kind → V.sc.nul = false →
 Calls Tryz.prog 44 #[tv, .agg vs.toArray] w (AnsB (fun b => b = true → GoodV (n + 1) T V) w)
set_option maxRecDepth 100000 in
set_option maxHeartbeats 8000000 in
theorem proper_step (n : Nat) (hk : KidsP n) (m m2 : Nat) (w : World) (tv : Value) (T : Ty) (vs : List Value) (V : Vl) (hT : TyAt (fun _ => False) m w tv T) (hV : VlAt (fun _ => False) m2 w vs V) (hG : Good (n + 1) T) :
  Calls Tryz.prog 21 #[tv, .agg vs.toArray] w (AnsB (fun b => b = true → GoodV (n + 1) T V) w) := by
 obtain ⟨B, bc, B', bc', rfl⟩ := hT.form
 cases m2 with
 |zero => exact hV.elim
 |succ m2 =>
 have HV := Lib.hid hV
 have HT := Lib.hid hT
 obtain ⟨A, c, A1, c1, A2, c2, rfl, q1, q2, q3, q4, q5, q6, hs, hd, -, -⟩ := hV
 clear hT
 have HG := Lib.hid hG
 have Hd := Lib.hid hd
 have Hs := Lib.hid hs
 have Hk := Lib.hid hk
 clear hs hG hd hk
 simp only [vcells] at HV ⊢
 unfold maxLen at q2 q4 q6
 cases hn : V.sc.nul with
 |true =>
  go_enter Tryz.func21, Tryz.ntmps21
  go_wp2_with fail
  go_ret
  exact AnsB.mk (by simp) (((Ext.refl _).alloc _).alloc _)
 |false =>
  rw [hn] at HV
  have Hn := Lib.hid hn
  clear hn
  go_enter Tryz.func21, Tryz.ntmps21
  go_wp2_with fail
  generalize hW : World.alloc (World.alloc w _) _ = W
  have h0 : Blk W w.heap.size 35 #[.int .i64 T.kind, .slice B T.kids.length bc, .slice B' T.names.length bc'] ∧ Blk W (w.heap.size + 1) 39 #[.bool false, .int .i64 V.sc.n, .float .f64 V.sc.f, .string V.sc.text, .slice A V.sc.data.length c, .int .i64 V.sc.scale, .int .i64 V.sc.months, .int .i64 V.sc.days, .int .i64 V.sc.nanos, .slice A1 V.keys.length c1, .slice A2 V.kids.length c2] ∧ Ext w W := by
   rw [← hW]
   exact ⟨(Blk.new w 35 _).alloc _, Blk.new' _ _ 39 _ (by simp), ((Ext.refl w).alloc _).alloc _⟩
  clear hW
  obtain ⟨hb1, hb2, hE⟩ := h0
  have hcall := bare_any T.kind (fun _ => False) (m2 + 1) _ V W (VlAt.onx (Onx.of_ext hE _) _ _ _ HV.out)
  have HB1 := Lib.hid hb1
  have HB2 := Lib.hid hb2
  have HE := Lib.hid hE
  clear hb1 hb2 hE
  refine hcall.mono ?_
  clear hcall
  rintro e w2 ⟨b, rfl, hbare, he2⟩
  have Hb := Lib.hid hbare
  have hx : Ext w w2 := HE.out.trans he2
  have HX := Lib.hid hx
  have hb1 := HB1.out.ext he2
  have hb2 := HB2.out.ext he2
  clear hbare he2 hx HB1 HB2 HE
  cases b with
  |false =>
   clear hb1 hb2
   go_wp2_with fail
   go_ret
   exact AnsB.mk (by simp) HX.out
  |true =>
   obtain ⟨b0, b1, b2⟩ := hb1.c3
   obtain ⟨d0, d1, d2, d3, d4, d5, d6, d7, d8, d9, d10⟩ := hb2.c11
   have hlt := hb2.lt
   clear hb1 hb2
   have leaf : ∀ (k : Int) (w' : World) (b : Bool), T.kind = k → k < 32 → (b = true → GoodS k V.sc) → Ext w2 w' → AnsB (fun b => b = true → GoodV (n + 1) T V) w (.returned (.bool b)) w' :=
    fun k w' b h1 h2 h3 h4 => AnsB.mk (fun h => goodV_leaf Hn.out h1 h2 (Hb.out (by simp)) (h3 h)) (HX.out.trans h4)
   have Leaf := Lib.hid leaf
   clear leaf
   rcases kinds_of HG.out.2 with h | h | h | h | h | h | h | h | h | h | h | h | h | h | h | h | h | h | h | h | h
   ·have hcall := Hk.out m (m2 + 1) w2 _ T _ V (TyAt.onx (Onx.of_ext HX.out _) _ _ _ HT.out) (VlAt.onx (Onx.of_ext HX.out _) _ _ _ HV.out) HG.out h Hn.out
    have Hcall := Lib.hid hcall
    have h' := Lib.hid (kinds_of2 HG.out.2 h)
    clear hcall h
    have t1 : (T.kind == 1) = false := by rcases h'.out with h | h | h | h | h <;> rw [h] <;> rfl
    have t2 : (T.kind == 2) = false := by rcases h'.out with h | h | h | h | h <;> rw [h] <;> rfl
    have t3 : (T.kind == 3) = false := by rcases h'.out with h | h | h | h | h <;> rw [h] <;> rfl
    have t4 : (T.kind == 4) = false := by rcases h'.out with h | h | h | h | h <;> rw [h] <;> rfl
    have t5 : (T.kind == 5) = false := by rcases h'.out with h | h | h | h | h <;> rw [h] <;> rfl
    have t6 : (T.kind == 6) = false := by rcases h'.out with h | h | h | h | h <;> rw [h] <;> rfl
    have t7 : (T.kind == 7) = false := by rcases h'.out with h | h | h | h | h <;> rw [h] <;> rfl
    have t8 : (T.kind == 8) = false := by rcases h'.out with h | h | h | h | h <;> rw [h] <;> rfl
    have t9 : (T.kind == 9) = false := by rcases h'.out with h | h | h | h | h <;> rw [h] <;> rfl
    have t11 : (T.kind == 11) = false := by rcases h'.out with h | h | h | h | h <;> rw [h] <;> rfl
    have t12 : (T.kind == 12) = false := by rcases h'.out with h | h | h | h | h <;> rw [h] <;> rfl
    have t13 : (T.kind == 13) = false := by rcases h'.out with h | h | h | h | h <;> rw [h] <;> rfl
    have t14 : (T.kind == 14) = false := by rcases h'.out with h | h | h | h | h <;> rw [h] <;> rfl
    have t15 : (T.kind == 15) = false := by rcases h'.out with h | h | h | h | h <;> rw [h] <;> rfl
    have t16 : (T.kind == 16) = false := by rcases h'.out with h | h | h | h | h <;> rw [h] <;> rfl
    have t17 : (T.kind == 17) = false := by rcases h'.out with h | h | h | h | h <;> rw [h] <;> rfl
    have t18 : (T.kind == 18) = false := by rcases h'.out with h | h | h | h | h <;> rw [h] <;> rfl
    have t19 : (T.kind == 19) = false := by rcases h'.out with h | h | h | h | h <;> rw [h] <;> rfl
    have t20 : (T.kind == 20) = false := by rcases h'.out with h | h | h | h | h <;> rw [h] <;> rfl
    have t21 : (T.kind == 21) = false := by rcases h'.out with h | h | h | h | h <;> rw [h] <;> rfl
    clear h'
    go_wp2_with fail
    refine Hcall.out.mono ?_
    rintro e w3 ⟨b, rfl, hg, he⟩
    have Hg := Lib.hid hg
    have He := Lib.hid he
    clear hg he
    go_wp2_with fail
    go_ret
    exact AnsB.mk Hg.out (HX.out.trans He.out)
   ·go_wp2_with fail
    refine (ascii_any V.sc.text (by have := Hs.out.text; unfold reach at this; unfold maxLen; omega) w2).mono ?_
    rintro e w3 ⟨b, rfl, hg, rfl⟩
    have Hg := Lib.hid hg
    clear hg
    go_wp2_with fail
    go_ret
    exact Leaf.out _ _ _ h (by omega) (fun hb => by simp [GoodS]; exact Hg.out hb) (Ext.refl _)
   ·go_wp2_with fail
    go_ret
    exact Leaf.out _ _ _ h (by omega) (fun hb => by simp [GoodS]) (Ext.refl _)
   ·go_wp2_with fail
    go_ret
    exact Leaf.out _ _ _ h (by omega) (fun hb => by simp at hb; simp [GoodS]; omega) (Ext.refl _)
   ·by_cases g : V.sc.n = 0
    ·have u : (V.sc.n == 0) = true := by simp [g]
     have G := Lib.hid g
     clear g
     go_wp2_with fail
     go_ret
     exact Leaf.out _ _ _ h (by omega) (fun hb => by simp [GoodS]; exact .inl G.out) (Ext.refl _)
    ·have u : (V.sc.n == 0) = false := by simp [g]
     clear g
     go_wp2_with fail
     go_ret
     exact Leaf.out _ _ _ h (by omega) (fun hb => by simp at hb; simp [GoodS]; exact .inr hb) (Ext.refl _)
   ·go_wp2_with fail
    go_ret
    exact Leaf.out _ _ _ h (by omega) (fun hb => by simp [GoodS]) (Ext.refl _)
   ·go_wp2_with fail
    refine (digits_any V.sc.text Hs.out.text w2).mono ?_
    rintro e w3 ⟨b, rfl, hg, rfl⟩
    have Hg := Lib.hid hg
    clear hg
    cases b with
    |false =>
     go_wp2_with fail
     go_ret
     exact Leaf.out _ _ _ h (by omega) (fun hb => by first | (simp at hb; done) | (simp at hb; omega)) (Ext.refl _)
    |true =>
     by_cases g : -1000 < V.sc.scale
     ·by_cases g2 : V.sc.scale < 1000
      ·go_wp2_with fail
       go_ret
       exact Leaf.out _ _ _ h (by omega) (fun hb => by simp [GoodS]; exact ⟨Hg.out (by simp), g, g2⟩) (Ext.refl _)
      ·go_wp2_with fail
       go_ret
       exact Leaf.out _ _ _ h (by omega) (fun hb => by first | (simp at hb; done) | (simp at hb; omega)) (Ext.refl _)
     ·go_wp2_with fail
      go_ret
      exact Leaf.out _ _ _ h (by omega) (fun hb => by first | (simp at hb; done) | (simp at hb; omega)) (Ext.refl _)
   ·go_wp2_with fail
    refine (simple_any V.sc.f w2).mono ?_
    rintro e w3 ⟨b, rfl, hg, he⟩
    have Hg := Lib.hid hg
    clear hg
    go_wp2_with fail
    go_ret
    exact Leaf.out _ _ _ h (by omega) (fun hb => by simp [GoodS]; exact Hg.out hb) he
   ·go_wp2_with fail
    refine (simple_any V.sc.f w2).mono ?_
    rintro e w3 ⟨b, rfl, hg, he⟩
    have Hg := Lib.hid hg
    clear hg
    go_wp2_with fail
    go_ret
    exact Leaf.out _ _ _ h (by omega) (fun hb => by simp [GoodS]; exact Hg.out hb) he
   ·go_wp2_with fail
    refine (win_32 V.sc.n w2).mono ?_
    rintro e w3 ⟨b, rfl, hg, rfl⟩
    have Hg := Lib.hid hg
    clear hg
    go_wp2_with fail
    go_ret
    exact Leaf.out _ _ _ h (by omega) (fun hb => by simp [GoodS]; exact Hg.out hb) (Ext.refl _)
   ·by_cases g : -35184372088832 < V.sc.n
    ·by_cases g2 : V.sc.n < 35184372088832
     ·go_wp2_with fail
      go_ret
      exact Leaf.out _ _ _ h (by omega) (fun hb => by simp [GoodS]) (Ext.refl _)
     ·go_wp2_with fail
      go_ret
      exact Leaf.out _ _ _ h (by omega) (fun hb => by first | (simp at hb; done) | (simp at hb; omega)) (Ext.refl _)
    ·go_wp2_with fail
     go_ret
     exact Leaf.out _ _ _ h (by omega) (fun hb => by first | (simp at hb; done) | (simp at hb; omega)) (Ext.refl _)
   ·go_wp2_with fail
    go_ret
    exact Leaf.out _ _ _ h (by omega) (fun hb => by simp at hb; simp [GoodS]; omega) (Ext.refl _)
   ·go_wp2_with fail
    refine (ascii_any V.sc.text (by have := Hs.out.text; unfold reach at this; unfold maxLen; omega) w2).mono ?_
    rintro e w3 ⟨b, rfl, hg, rfl⟩
    have Hg := Lib.hid hg
    clear hg
    go_wp2_with fail
    go_ret
    exact Leaf.out _ _ _ h (by omega) (fun hb => by simp [GoodS]; exact Hg.out hb) (Ext.refl _)
   ·go_wp2_with fail
    refine (digits_any V.sc.text Hs.out.text w2).mono ?_
    rintro e w3 ⟨b, rfl, hg, rfl⟩
    have Hg := Lib.hid hg
    clear hg
    go_wp2_with fail
    go_ret
    exact Leaf.out _ _ _ h (by omega) (fun hb => by simp [GoodS]; exact Hg.out hb) (Ext.refl _)
   ·by_cases g : V.sc.data.length = 16
    ·have u : ((V.sc.data.length : Int) == 16) = true := by simp [g]
     obtain ⟨bb, oo, hA, hbb, -, hcell⟩ := Hd.out (by intro e; have := congrArg List.length e; simp at this; rw [this] at g; simp at g)
     subst hA
     have e6 : V.sc.data[6]? = some V.sc.data[6] := List.getElem?_eq_getElem (by omega)
     have e8 : V.sc.data[8]? = some V.sc.data[8] := List.getElem?_eq_getElem (by omega)
     have j6 : w2.cell? ⟨bb, oo + 6, none⟩ = some (byteV V.sc.data[6]) := HX.out.cellS (hcell 6 _ (by rw [List.getElem?_map, e6]; rfl))
     have j8 : w2.cell? ⟨bb, oo + 8, none⟩ = some (byteV V.sc.data[8]) := HX.out.cellS (hcell 8 _ (by rw [List.getElem?_map, e8]; rfl))
     generalize V.sc.data[6] = x6 at j6 e6
     generalize V.sc.data[8] = x8 at j8 e8
     unfold byteV at j6 j8
     have G := Lib.hid g
     have g' : (6 : Int) < (V.sc.data.length : Int) := by omega
     have g'' : (8 : Int) < (V.sc.data.length : Int) := by omega
     clear e6 e8 hcell g
     go_wp2_with fail
     all_goals
      go_ret
      exact Leaf.out _ _ _ h (by omega) (fun hb => by simp [GoodS]; exact G.out) (Ext.refl _)
    ·have u : ((V.sc.data.length : Int) == 16) = false := by simp; omega
     clear g
     go_wp2_with fail
     go_ret
     exact Leaf.out _ _ _ h (by omega) (fun hb => by first | (simp at hb; done) | (simp at hb; omega)) (Ext.refl _)
   ·by_cases g4 : V.sc.data.length = 4
    ·have u : ((V.sc.data.length : Int) == 4) = true := by simp [g4]
     have G := Lib.hid g4
     clear g4
     go_wp2_with fail
     go_ret
     exact Leaf.out _ _ _ h (by omega) (fun hb => by simp [GoodS]; exact .inl G.out) (Ext.refl _)
    ·have u4 : ((V.sc.data.length : Int) == 4) = false := by simp; omega
     clear g4
     by_cases g : V.sc.data.length = 16
     ·have G := Lib.hid g
      rw [g] at d4
      clear g u4
      go_wp2_with fail
      refine (mapped_any (fun _ => False) V.sc.data G.out A c (by have := G.out; omega) (by unfold maxLen; omega) w2 (Hd.out.onx (Onx.of_ext HX.out _))).mono ?_
      rintro e w3 ⟨b, rfl, hg, rfl⟩
      have Hg := Lib.hid hg
      clear hg
      cases b
      ·go_wp2_with fail
       go_ret
       exact Leaf.out _ _ _ h (by omega) (fun hb => by simp [GoodS]; exact .inr ⟨G.out, fun hm => by have := Hg.out.2 hm; simp at this⟩) (Ext.refl _)
      ·go_wp2_with fail
       go_ret
       exact Leaf.out _ _ _ h (by omega) (fun hb => by simp at hb) (Ext.refl _)
     ·have u : ((V.sc.data.length : Int) == 16) = false := by simp; omega
      clear g
      go_wp2_with fail
      go_ret
      exact Leaf.out _ _ _ h (by omega) (fun hb => by first | (simp at hb; done) | (simp at hb; omega)) (Ext.refl _)
   ·by_cases g : -700000 < V.sc.n
    ·by_cases g2 : V.sc.n < 2900000
     ·go_wp2_with fail
      go_ret
      exact Leaf.out _ _ _ h (by omega) (fun hb => by simp [GoodS]; exact ⟨g, g2⟩) (Ext.refl _)
     ·go_wp2_with fail
      go_ret
      exact Leaf.out _ _ _ h (by omega) (fun hb => by first | (simp at hb; done) | (simp at hb; omega)) (Ext.refl _)
    ·go_wp2_with fail
     go_ret
     exact Leaf.out _ _ _ h (by omega) (fun hb => by first | (simp at hb; done) | (simp at hb; omega)) (Ext.refl _)
   ·by_cases g : 0 ≤ V.sc.n
    ·by_cases g2 : V.sc.n < 86400000000000
     ·go_wp2_with fail
      go_ret
      exact Leaf.out _ _ _ h (by omega) (fun hb => by simp [GoodS]) (Ext.refl _)
     ·go_wp2_with fail
      go_ret
      exact Leaf.out _ _ _ h (by omega) (fun hb => by first | (simp at hb; done) | (simp at hb; omega)) (Ext.refl _)
    ·go_wp2_with fail
     go_ret
     exact Leaf.out _ _ _ h (by omega) (fun hb => by first | (simp at hb; done) | (simp at hb; omega)) (Ext.refl _)
   ·go_wp2_with fail
    refine (win_16 V.sc.n w2).mono ?_
    rintro e w3 ⟨b, rfl, hg, rfl⟩
    have Hg := Lib.hid hg
    clear hg
    go_wp2_with fail
    go_ret
    exact Leaf.out _ _ _ h (by omega) (fun hb => by simp [GoodS]; exact Hg.out hb) (Ext.refl _)
   ·go_wp2_with fail
    refine (win_8 V.sc.n w2).mono ?_
    rintro e w3 ⟨b, rfl, hg, rfl⟩
    have Hg := Lib.hid hg
    clear hg
    go_wp2_with fail
    go_ret
    exact Leaf.out _ _ _ h (by omega) (fun hb => by simp [GoodS]; exact Hg.out hb) (Ext.refl _)
   ·go_wp2_with fail
    refine (win_32 V.sc.months w2).mono ?_
    rintro e w3 ⟨b, rfl, hg, rfl⟩
    have Hg := Lib.hid hg
    clear hg
    cases b with
    |false =>
     go_wp2_with fail
     go_ret
     exact Leaf.out _ _ _ h (by omega) (fun hb => by first | (simp at hb; done) | (simp at hb; omega)) (Ext.refl _)
    |true =>
     go_wp2_with fail
     refine (win_32 V.sc.days w2).mono ?_
     rintro e w4 ⟨b, rfl, hg2, rfl⟩
     have Hg2 := Lib.hid hg2
     clear hg2
     cases b with
     |false =>
      go_wp2_with fail
      go_ret
      exact Leaf.out _ _ _ h (by omega) (fun hb => by first | (simp at hb; done) | (simp at hb; omega)) (Ext.refl _)
     |true =>
      have fin : ∀ b : Bool, AnsB (fun b => b = true → GoodV (n + 1) T V) w (.returned (.bool b)) w2 := fun b => Leaf.out _ _ _ h (by omega) (fun hb => by simp [GoodS]; have := Hg.out (by simp); have := Hg2.out (by simp); omega) (Ext.refl _)
      have Fin := Lib.hid fin
      clear fin
      have hcs : (0 ≤ V.sc.months ∧ 0 ≤ V.sc.days ∧ 0 ≤ V.sc.nanos) ∨ (0 < V.sc.months ∧ 0 ≤ V.sc.days ∧ V.sc.nanos < 0) ∨ (V.sc.months = 0 ∧ 0 < V.sc.days ∧ V.sc.nanos < 0) ∨ (V.sc.months = 0 ∧ V.sc.days = 0 ∧ V.sc.nanos < 0) ∨
        (0 < V.sc.months ∧ V.sc.days < 0) ∨ (V.sc.months = 0 ∧ V.sc.days < 0 ∧ V.sc.nanos ≤ 0) ∨ (V.sc.months = 0 ∧ V.sc.days < 0 ∧ 0 < V.sc.nanos) ∨ (V.sc.months < 0 ∧ 0 < V.sc.days) ∨ (V.sc.months < 0 ∧ V.sc.days ≤ 0 ∧ V.sc.nanos ≤ 0) ∨ (V.sc.months < 0 ∧ V.sc.days ≤ 0 ∧ 0 < V.sc.nanos) := by omega
      rcases hcs with ⟨a1, a2, a3⟩ | ⟨a1, a2, a3⟩ | ⟨a1, a2, a3⟩ | ⟨a1, a2, a3⟩ | ⟨a1, a2⟩ | ⟨a1, a2, a3⟩ | ⟨a1, a2, a3⟩ | ⟨a1, a2⟩ | ⟨a1, a2, a3⟩ | ⟨a1, a2, a3⟩
      all_goals
       go_wp2_with fail
       go_ret
       exact Fin.out _
end Go.Proofs.YtammjbmfiakbnaaGreatDoor
namespace Go.Proofs.YtammjbmfiakbnaaGreatDoor
open Go.RowKit
/-- Proper: what it says yes to is good. -/
def PropP (n : Nat) : Prop := ∀ (m m2 : Nat) (w : World) (tv : Value) (T : Ty) (vs : List Value) (V : Vl), TyAt (fun _ => False) m w tv T → VlAt (fun _ => False) m2 w vs V → Good n T →
 Calls Tryz.prog 21 #[tv, .agg vs.toArray] w (AnsB (fun b => b = true → GoodV n T V) w)
/-- A row's element, as it lies in memory. -/
theorem kid_at {X : Nat → Prop} {w : World} {A : Option Addr} {m i : Nat} {l : List Vl} {t : Vl} (h : RowOf X w A (VlAt X m w) l) (ht : l[i]? = some t) :
  ∃ b o xA xc xA1 xc1 xA2 xc2, A = some ⟨b, o, none⟩ ∧ b < w.heap.size ∧ VlAt X m w (vcells t.sc xA xc xA1 t.keys.length xc1 xA2 t.kids.length xc2) t ∧ w.rangeAt b (o + i * 11) (vcells t.sc xA xc xA1 t.keys.length xc1 xA2 t.kids.length xc2) := by
 obtain ⟨cs, h1, h2, h3⟩ := h
 have hv := h3 i t ht
 obtain ⟨xA, xc, xA1, xc1, xA2, xc2, e, -⟩ := hv.form
 obtain ⟨b, o, hA, hb, hX, hc⟩ := row_cells h2 e rfl
 exact ⟨b, o, xA, xc, xA1, xc1, xA2, xc2, hA, hb, e ▸ hv, hc⟩
/-- A type's first kid, and its second. -/
theorem tkid_at {X : Nat → Prop} {w : World} {A A' : Option Addr} {m : Nat} {c c' i : Nat} {T t : Ty} (h : TyAt X (m + 1) w (.agg #[.int .i64 T.kind, .slice A T.kids.length c, .slice A' T.names.length c']) T) (ht : T.kids[i]? = some t) :
  ∃ b o xA xc xA' xc', A = some ⟨b, o, none⟩ ∧ b < w.heap.size ∧ TyAt X m w (.agg #[.int .i64 t.kind, .slice xA t.kids.length xc, .slice xA' t.names.length xc']) t ∧
   w.cell? ⟨b, o + i * 3, none⟩ = some (.int .i64 t.kind) ∧ w.cell? ⟨b, o + i * 3 + 1, none⟩ = some (.slice xA t.kids.length xc) ∧ w.cell? ⟨b, o + i * 3 + 2, none⟩ = some (.slice xA' t.names.length xc') := by
 obtain ⟨A0, c0, A1, c1, cs, hv, -, -, -, -, -, -, h6, h7, h8⟩ := h
 simp only [Value.agg.injEq, Array.mk.injEq, List.cons.injEq, Value.slice.injEq, true_and, and_true] at hv
 obtain ⟨⟨rfl, rfl⟩, rfl, rfl⟩ := hv
 obtain ⟨a, b, d, e0, e1, e2, hk⟩ := h8 i t ht
 obtain ⟨g, o, hA, hb, -, hc⟩ := h7 (by rintro rfl; simp at e0)
 obtain ⟨xA, xc, xA', xc', rfl, rfl, rfl⟩ := hk.form3
 exact ⟨g, o, xA, xc, xA', xc', hA, hb, hk, hc _ _ e0, (by rw [Nat.add_assoc]; exact hc _ _ e1), (by rw [Nat.add_assoc]; exact hc _ _ e2)⟩
set_option maxRecDepth 100000 in
set_option maxHeartbeats 2000000 in
theorem list_kids32 (n : Nat) (hp : PropP n) (m m2 : Nat) (w : World) (tv : Value) (T : Ty) (vs : List Value) (V : Vl) (hT : TyAt (fun _ => False) m w tv T) (hV : VlAt (fun _ => False) m2 w vs V) (hG : Good (n + 1) T) (hn : V.sc.nul = false)
  (hk : T.kind = 32) (hlen : V.kids.length ≤ 20) :
  Calls Tryz.prog 44 #[tv, .agg vs.toArray] w (AnsB (fun b => b = true → GoodV (n + 1) T V) w) := by
 obtain ⟨B, bc, B', bc', rfl⟩ := hT.form
 cases m2 with
 |zero => exact hV.elim
 |succ m2 =>
 cases m with
 |zero => exact hT.elim
 |succ m =>
 have hl1 : T.kids.length = 1 := by
  have := hG.2
  unfold Shape at this
  omega
 have hkt : T.kids[0]? = some T.kids[0] := List.getElem?_eq_getElem (by omega)
 have hkg : Good n T.kids[0] := hG.1 _ (List.getElem_mem _)
 generalize T.kids[0] = kt at hkt hkg
 have HT := Lib.hid (tkid_at hT hkt)
 have HV := Lib.hid hV
 obtain ⟨A, c, A1, c1, A2, c2, rfl, q1, q2, q3, q4, q5, q6, hs, hd, -, hrow⟩ := hV
 have HR := Lib.hid hrow
 have Hp := Lib.hid hp
 have Hkt := Lib.hid hkt
 have Hkg := Lib.hid hkg
 have Hn := Lib.hid hn
 clear hT hs hG hd hrow hp hkt hkg hn HV
 simp only [vcells]
 unfold maxLen at q2 q4 q6
 have Hl1 := Lib.hid hl1
 have hbc : 0 < T.kids.length := by omega
 clear hl1
 go_enter Tryz.func44, Tryz.ntmps44
 have t32 : (T.kind == 32) = true := by simp [hk]
 have Hk := Lib.hid hk
 clear hk
 go_wp2_with fail
 generalize hW : World.alloc (World.alloc w _) _ = wa
 have h0 : Blk wa w.heap.size 35 #[.int .i64 T.kind, .slice B T.kids.length bc, .slice B' T.names.length bc'] ∧ Blk wa (w.heap.size + 1) 39 #[.bool V.sc.nul, .int .i64 V.sc.n, .float .f64 V.sc.f, .string V.sc.text, .slice A V.sc.data.length c, .int .i64 V.sc.scale, .int .i64 V.sc.months, .int .i64 V.sc.days, .int .i64 V.sc.nanos, .slice A1 V.keys.length c1, .slice A2 V.kids.length c2] ∧ Ext w wa := by
  rw [← hW]
  exact ⟨(Blk.new w 35 _).alloc _, Blk.new' _ _ 39 _ (by simp), ((Ext.refl w).alloc _).alloc _⟩
 clear hW
 obtain ⟨hb1, hb2, hE⟩ := h0
 have HB1 := Lib.hid hb1
 have HB2 := Lib.hid hb2
 have HE := Lib.hid hE
 clear hb1 hb2 hE
 go_loopw [22] (fun v wr => ∃ i : Nat, i ≤ V.kids.length ∧ v = .int .i64 i ∧ Ext wa wr ∧ ∀ j k, j < i → V.kids[j]? = some k → GoodV n kt k) (fun v _ => V.kids.length - (intOf v).toNat)
 case atStart => exact ⟨0, Nat.zero_le _, rfl, Ext.refl _, fun j t h => by omega⟩
 case round =>
  obtain ⟨i, hi, rfl, hE, hgood⟩ := hrel
  have HW := Lib.hid hE
  have HG := Lib.hid hgood
  clear hE hgood
  by_cases hlti : (i : Int) < V.kids.length
  ·have hi' : i < V.kids.length := by omega
   have hki : V.kids[i]? = some V.kids[i] := List.getElem?_eq_getElem hi'
   obtain ⟨b, o, xA, xc, xA1, xc1, xA2, xc2, hA, hb, hx, hrg⟩ := kid_at HR.out hki
   generalize V.kids[i] = kv at hki hx hrg
   subst hA
   have hEx : Ext w wr := HE.out.trans HW.out
   have HK := Lib.hid (VlAt.onx (Onx.of_ext hEx _) _ _ _ hx)
   have Hki := Lib.hid hki
   have HX := Lib.hid hEx
   have hrange : wr.rangeAt b (o + i * 11) (vcells kv.sc xA xc xA1 kv.keys.length xc1 xA2 kv.kids.length xc2) := fun j u hu => hEx.cellS (hrg j u hu)
   have Hrange := Lib.hid hrange
   clear hx hki hEx hrg hrange
   go_upto_region 8 with fail
   refine wp_region_lit ?_
   iterate 1 (refine wpList_plain rfl (fun K hK => ?_); go_simp; refine hK _ _ ?_; clear hK K; try simp only [aP, aN, aT, aZ, aS])
   refine wpList_load_mid rfl 39 _ rfl b (o + i * 11) (by rfl) (vcells kv.sc xA xc xA1 kv.keys.length xc1 xA2 kv.kids.length xc2) _ Hrange.out Tryz.underlying39 rfl hi39 ?_
   try simp only [aP, aN, aT, aZ, aS]
   iterate 1 (refine wpList_plain rfl (fun K hK => ?_); go_simp; refine hK _ _ ?_; clear hK K; try simp only [aP, aN, aT, aZ, aS])
   refine wpList_store_mid rfl 39 _ _ rfl wr.heap.size 0 (vcells kv.sc xA xc xA1 kv.keys.length xc1 xA2 kv.kids.length xc2).toArray (by rfl) (by rfl) ((Blk.new wr 39 #[.bool false, .int .i64 0, .float .f64 0, .string ⟨#[]⟩, .slice none 0 0, .int .i64 0, .int .i64 0, .int .i64 0, .int .i64 0, .slice none 0 0, .slice none 0 0]).there rfl) hi39 (by simp [vcells, Value.oneCell']) ?_
   generalize hW1 : World.setCells _ _ _ _ = W1
   have hB1 : Blk W1 wr.heap.size 39 (vcells kv.sc xA xc xA1 kv.keys.length xc1 xA2 kv.kids.length xc2).toArray := by
    rw [← hW1]
    exact Blk.setCells (Blk.new wr 39 #[.bool false, .int .i64 0, .float .f64 0, .string ⟨#[]⟩, .slice none 0 0, .int .i64 0, .int .i64 0, .int .i64 0, .int .i64 0, .slice none 0 0, .slice none 0 0]) rfl
   have hE1 : Ext wr W1 := by
    rw [← hW1]
    exact setCells_ext (Nat.le_refl _) _ _ _ ((Ext.refl wr).alloc _)
   have HE1 := Lib.hid hE1
   have hlt1 := hB1.lt
   have HB9 := Lib.hid hB1
   clear hW1 hB1 hE1
   go_upto_region 9 with fail
   obtain ⟨tb, tx, yA, yc, yA', yc', hB, htb, hty, g0, g1, g2⟩ := HT.out
   rw [Nat.zero_mul, Nat.add_zero] at g0 g1 g2
   subst hB
   have hx1 : Ext w W1.drew := (HX.out.trans HE1.out).drew
   have hcall := Hp.out m m2 W1.drew _ kt _ kv (TyAt.onx (Onx.of_ext hx1 _) _ _ _ hty) (VlAt.onx (Onx.of_ext HE1.out.drew _) _ _ _ HK.out) Hkg.out
   have Hcall := Lib.hid hcall
   have hS : W1.drew.cell? ⟨w.heap.size, 1, none⟩ = some (.slice (some ⟨tb, tx, none⟩) T.kids.length bc) ∧ W1.drew.cell? ⟨tb, tx, none⟩ = some (.int .i64 kt.kind) ∧ W1.drew.cell? ⟨tb, tx + 1, none⟩ = some (.slice yA kt.kids.length yc) ∧ W1.drew.cell? ⟨tb, tx + 2, none⟩ = some (.slice yA' kt.names.length yc') ∧ W1.drew.rangeAt wr.heap.size 0 (vcells kv.sc xA xc xA1 kv.keys.length xc1 xA2 kv.kids.length xc2) :=
    ⟨(((HB1.out.ext HW.out).ext HE1.out).ext ((Ext.refl W1).drew)).cell 1, hx1.cellS g0, hx1.cellS g1, hx1.cellS g2, Blk.range (HB9.out.ext ((Ext.refl W1).drew))⟩
   have HS := Lib.hid hS
   have Hx1 := Lib.hid hx1
   clear hcall hS hx1 hty g0 g1 g2
   refine wp_region_K (fun w' => w'.cell? ⟨w.heap.size, 1, none⟩ = some (.slice (some ⟨tb, tx, none⟩) T.kids.length bc) ∧ w'.cell? ⟨tb, tx, none⟩ = some (.int .i64 kt.kind) ∧ w'.cell? ⟨tb, tx + 1, none⟩ = some (.slice yA kt.kids.length yc) ∧ w'.cell? ⟨tb, tx + 2, none⟩ = some (.slice yA' kt.names.length yc') ∧ w'.rangeAt wr.heap.size 0 (vcells kv.sc xA xc xA1 kv.keys.length xc1 xA2 kv.kids.length xc2)) (ix [1, 3, 4]) 7 [false, false, false, false, false, false, false] (by kernel_rfl) rfl rfl ?_
   refine fV 0 (v := ?v9x0) rfl (by rfl) ?y9x0 ?_
   case y9x0 => intro w; go_simp; with_reducible rfl
   simp only [aP, aN, aT, aZ, aS]
   refine tV 1 (ix [2, 3, 5, 6]) (v := ?v9x1) rfl HS.out (by rfl) ?y9x1 ?_
   case y9x1 => rintro w ⟨s1, s2, s3, s4, s5⟩; go_simp; with_reducible rfl
   simp only [aP, aN, aT, aZ, aS]
   refine fV 2 (v := ?v9x2) rfl (by rfl) ?y9x2 ?_
   case y9x2 => intro w; go_simp; with_reducible rfl
   simp only [aP, aN, aT, aZ, aS]
   refine tV 3 (ix [5, 6]) (v := ?v9x3) rfl HS.out (by rfl) ?y9x3 ?_
   case y9x3 => rintro w ⟨s1, s2, s3, s4, s5⟩; go_simp; with_reducible rfl
   simp only [aP, aN, aT, aZ, aS]
   refine tG 4 (ix [5, 6]) rfl HS.out (yieldsIf_load_mid (by rfl) 39 _ rfl wr.heap.size 0 (by rfl) (vcells kv.sc xA xc xA1 kv.keys.length xc1 xA2 kv.kids.length xc2) _ (fun w' h => h.2.2.2.2) Tryz.underlying39 rfl hi39) ?_
   simp only [aP, aN, aT, aZ, aS]
   refine wpAnyK_one 5 (by kernel_rfl) rfl rfl (fun K' hK => ?_)
   go_simp
   refine Hcall.out.mono ?_
   rintro e w2 ⟨b9, rfl, hg9, he9⟩
   refine hK.out _ _ (fun h => absurd h (by decide)) ?_
   clear hK K'
   simp only [aP, aN, aT, aZ, aS]
   refine fV 6 (v := ?v9x6) rfl (by rfl) ?y9x6 ?_
   case y9x6 => intro w; go_simp; with_reducible rfl
   simp only [aP, aN, aT, aZ, aS]
   refine wpAnyK_done (by kernel_rfl) ?_ _
   have Hg9 := Lib.hid hg9
   have hx2 : Ext wr w2 := HE1.out.drew.trans he9
   have Hx2 := Lib.hid hx2
   clear hg9 he9 hx2
   cases b9 with
   |false =>
    go_wp2_with fail
    go_ret
    exact AnsB.mk (by simp) (HX.out.trans Hx2.out)
   |true =>
    go_wp2_with fail
    go_roundw
    case rel =>
     refine ⟨i + 1, by omega, rfl, HW.out.trans Hx2.out, fun j t hj ht => ?_⟩
     by_cases hji : j = i
     ·subst hji
      have e := ht.symm.trans Hki.out
      injection e with e
      subst e
      exact Hg9.out (by simp)
     ·exact HG.out j t (by omega) ht
    case measure => simp [intOf]; omega
  ·have hall : ∀ k ∈ V.kids, GoodV n kt k := fun k hk => by
    obtain ⟨j, hj, e⟩ := List.mem_iff_getElem.1 hk
    exact HG.out j k (by omega) (by rw [List.getElem?_eq_getElem hj, e])
   have Hall := Lib.hid hall
   have hb2 := HB2.out.ext HW.out
   obtain ⟨d0, d1, d2, d3, d4, d5, d6, d7, d8, d9, d10⟩ := hb2.c11
   have hlt := hb2.lt
   clear hall hb2
   go_wp2_with fail
   go_ret
   exact AnsB.mk (fun hq => ⟨Hn.out, hlen, .inr (.inl ⟨.inl Hk.out, by simp at hq; exact hq, kt, Hkt.out, Hall.out⟩)⟩) (HE.out.trans HW.out)
set_option maxRecDepth 100000 in
set_option maxHeartbeats 2000000 in
theorem list_kids34 (n : Nat) (hp : PropP n) (m m2 : Nat) (w : World) (tv : Value) (T : Ty) (vs : List Value) (V : Vl) (hT : TyAt (fun _ => False) m w tv T) (hV : VlAt (fun _ => False) m2 w vs V) (hG : Good (n + 1) T) (hn : V.sc.nul = false)
  (hk : T.kind = 34) (hlen : V.kids.length ≤ 20) :
  Calls Tryz.prog 44 #[tv, .agg vs.toArray] w (AnsB (fun b => b = true → GoodV (n + 1) T V) w) := by
 obtain ⟨B, bc, B', bc', rfl⟩ := hT.form
 cases m2 with
 |zero => exact hV.elim
 |succ m2 =>
 cases m with
 |zero => exact hT.elim
 |succ m =>
 have hl1 : T.kids.length = 1 := by
  have := hG.2
  unfold Shape at this
  omega
 have hkt : T.kids[0]? = some T.kids[0] := List.getElem?_eq_getElem (by omega)
 have hkg : Good n T.kids[0] := hG.1 _ (List.getElem_mem _)
 generalize T.kids[0] = kt at hkt hkg
 have HT := Lib.hid (tkid_at hT hkt)
 have HV := Lib.hid hV
 obtain ⟨A, c, A1, c1, A2, c2, rfl, q1, q2, q3, q4, q5, q6, hs, hd, -, hrow⟩ := hV
 have HR := Lib.hid hrow
 have Hp := Lib.hid hp
 have Hkt := Lib.hid hkt
 have Hkg := Lib.hid hkg
 have Hn := Lib.hid hn
 clear hT hs hG hd hrow hp hkt hkg hn HV
 simp only [vcells]
 unfold maxLen at q2 q4 q6
 have Hl1 := Lib.hid hl1
 have hbc : 0 < T.kids.length := by omega
 clear hl1
 go_enter Tryz.func44, Tryz.ntmps44
 have t32 : (T.kind == 32) = false := by simp [hk]
 have t34 : (T.kind == 34) = true := by simp [hk]
 have Hk := Lib.hid hk
 clear hk
 go_wp2_with fail
 generalize hW : World.alloc (World.alloc w _) _ = wa
 have h0 : Blk wa w.heap.size 35 #[.int .i64 T.kind, .slice B T.kids.length bc, .slice B' T.names.length bc'] ∧ Blk wa (w.heap.size + 1) 39 #[.bool V.sc.nul, .int .i64 V.sc.n, .float .f64 V.sc.f, .string V.sc.text, .slice A V.sc.data.length c, .int .i64 V.sc.scale, .int .i64 V.sc.months, .int .i64 V.sc.days, .int .i64 V.sc.nanos, .slice A1 V.keys.length c1, .slice A2 V.kids.length c2] ∧ Ext w wa := by
  rw [← hW]
  exact ⟨(Blk.new w 35 _).alloc _, Blk.new' _ _ 39 _ (by simp), ((Ext.refl w).alloc _).alloc _⟩
 clear hW
 obtain ⟨hb1, hb2, hE⟩ := h0
 have HB1 := Lib.hid hb1
 have HB2 := Lib.hid hb2
 have HE := Lib.hid hE
 clear hb1 hb2 hE
 go_loopw [22] (fun v wr => ∃ i : Nat, i ≤ V.kids.length ∧ v = .int .i64 i ∧ Ext wa wr ∧ ∀ j k, j < i → V.kids[j]? = some k → GoodV n kt k) (fun v _ => V.kids.length - (intOf v).toNat)
 case atStart => exact ⟨0, Nat.zero_le _, rfl, Ext.refl _, fun j t h => by omega⟩
 case round =>
  obtain ⟨i, hi, rfl, hE, hgood⟩ := hrel
  have HW := Lib.hid hE
  have HG := Lib.hid hgood
  clear hE hgood
  by_cases hlti : (i : Int) < V.kids.length
  ·have hi' : i < V.kids.length := by omega
   have hki : V.kids[i]? = some V.kids[i] := List.getElem?_eq_getElem hi'
   obtain ⟨b, o, xA, xc, xA1, xc1, xA2, xc2, hA, hb, hx, hrg⟩ := kid_at HR.out hki
   generalize V.kids[i] = kv at hki hx hrg
   subst hA
   have hEx : Ext w wr := HE.out.trans HW.out
   have HK := Lib.hid (VlAt.onx (Onx.of_ext hEx _) _ _ _ hx)
   have Hki := Lib.hid hki
   have HX := Lib.hid hEx
   have hrange : wr.rangeAt b (o + i * 11) (vcells kv.sc xA xc xA1 kv.keys.length xc1 xA2 kv.kids.length xc2) := fun j u hu => hEx.cellS (hrg j u hu)
   have Hrange := Lib.hid hrange
   clear hx hki hEx hrg hrange
   go_upto_region 8 with fail
   refine wp_region_lit ?_
   iterate 1 (refine wpList_plain rfl (fun K hK => ?_); go_simp; refine hK _ _ ?_; clear hK K; try simp only [aP, aN, aT, aZ, aS])
   refine wpList_load_mid rfl 39 _ rfl b (o + i * 11) (by rfl) (vcells kv.sc xA xc xA1 kv.keys.length xc1 xA2 kv.kids.length xc2) _ Hrange.out Tryz.underlying39 rfl hi39 ?_
   try simp only [aP, aN, aT, aZ, aS]
   iterate 1 (refine wpList_plain rfl (fun K hK => ?_); go_simp; refine hK _ _ ?_; clear hK K; try simp only [aP, aN, aT, aZ, aS])
   refine wpList_store_mid rfl 39 _ _ rfl wr.heap.size 0 (vcells kv.sc xA xc xA1 kv.keys.length xc1 xA2 kv.kids.length xc2).toArray (by rfl) (by rfl) ((Blk.new wr 39 #[.bool false, .int .i64 0, .float .f64 0, .string ⟨#[]⟩, .slice none 0 0, .int .i64 0, .int .i64 0, .int .i64 0, .int .i64 0, .slice none 0 0, .slice none 0 0]).there rfl) hi39 (by simp [vcells, Value.oneCell']) ?_
   generalize hW1 : World.setCells _ _ _ _ = W1
   have hB1 : Blk W1 wr.heap.size 39 (vcells kv.sc xA xc xA1 kv.keys.length xc1 xA2 kv.kids.length xc2).toArray := by
    rw [← hW1]
    exact Blk.setCells (Blk.new wr 39 #[.bool false, .int .i64 0, .float .f64 0, .string ⟨#[]⟩, .slice none 0 0, .int .i64 0, .int .i64 0, .int .i64 0, .int .i64 0, .slice none 0 0, .slice none 0 0]) rfl
   have hE1 : Ext wr W1 := by
    rw [← hW1]
    exact setCells_ext (Nat.le_refl _) _ _ _ ((Ext.refl wr).alloc _)
   have HE1 := Lib.hid hE1
   have hlt1 := hB1.lt
   have HB9 := Lib.hid hB1
   clear hW1 hB1 hE1
   go_upto_region 9 with fail
   obtain ⟨tb, tx, yA, yc, yA', yc', hB, htb, hty, g0, g1, g2⟩ := HT.out
   rw [Nat.zero_mul, Nat.add_zero] at g0 g1 g2
   subst hB
   have hx1 : Ext w W1.drew := (HX.out.trans HE1.out).drew
   have hcall := Hp.out m m2 W1.drew _ kt _ kv (TyAt.onx (Onx.of_ext hx1 _) _ _ _ hty) (VlAt.onx (Onx.of_ext HE1.out.drew _) _ _ _ HK.out) Hkg.out
   have Hcall := Lib.hid hcall
   have hS : W1.drew.cell? ⟨w.heap.size, 1, none⟩ = some (.slice (some ⟨tb, tx, none⟩) T.kids.length bc) ∧ W1.drew.cell? ⟨tb, tx, none⟩ = some (.int .i64 kt.kind) ∧ W1.drew.cell? ⟨tb, tx + 1, none⟩ = some (.slice yA kt.kids.length yc) ∧ W1.drew.cell? ⟨tb, tx + 2, none⟩ = some (.slice yA' kt.names.length yc') ∧ W1.drew.rangeAt wr.heap.size 0 (vcells kv.sc xA xc xA1 kv.keys.length xc1 xA2 kv.kids.length xc2) :=
    ⟨(((HB1.out.ext HW.out).ext HE1.out).ext ((Ext.refl W1).drew)).cell 1, hx1.cellS g0, hx1.cellS g1, hx1.cellS g2, Blk.range (HB9.out.ext ((Ext.refl W1).drew))⟩
   have HS := Lib.hid hS
   have Hx1 := Lib.hid hx1
   clear hcall hS hx1 hty g0 g1 g2
   refine wp_region_K (fun w' => w'.cell? ⟨w.heap.size, 1, none⟩ = some (.slice (some ⟨tb, tx, none⟩) T.kids.length bc) ∧ w'.cell? ⟨tb, tx, none⟩ = some (.int .i64 kt.kind) ∧ w'.cell? ⟨tb, tx + 1, none⟩ = some (.slice yA kt.kids.length yc) ∧ w'.cell? ⟨tb, tx + 2, none⟩ = some (.slice yA' kt.names.length yc') ∧ w'.rangeAt wr.heap.size 0 (vcells kv.sc xA xc xA1 kv.keys.length xc1 xA2 kv.kids.length xc2)) (ix [1, 3, 4]) 7 [false, false, false, false, false, false, false] (by kernel_rfl) rfl rfl ?_
   refine fV 0 (v := ?v9x0) rfl (by rfl) ?y9x0 ?_
   case y9x0 => intro w; go_simp; with_reducible rfl
   simp only [aP, aN, aT, aZ, aS]
   refine tV 1 (ix [2, 3, 5, 6]) (v := ?v9x1) rfl HS.out (by rfl) ?y9x1 ?_
   case y9x1 => rintro w ⟨s1, s2, s3, s4, s5⟩; go_simp; with_reducible rfl
   simp only [aP, aN, aT, aZ, aS]
   refine fV 2 (v := ?v9x2) rfl (by rfl) ?y9x2 ?_
   case y9x2 => intro w; go_simp; with_reducible rfl
   simp only [aP, aN, aT, aZ, aS]
   refine tV 3 (ix [5, 6]) (v := ?v9x3) rfl HS.out (by rfl) ?y9x3 ?_
   case y9x3 => rintro w ⟨s1, s2, s3, s4, s5⟩; go_simp; with_reducible rfl
   simp only [aP, aN, aT, aZ, aS]
   refine tG 4 (ix [5, 6]) rfl HS.out (yieldsIf_load_mid (by rfl) 39 _ rfl wr.heap.size 0 (by rfl) (vcells kv.sc xA xc xA1 kv.keys.length xc1 xA2 kv.kids.length xc2) _ (fun w' h => h.2.2.2.2) Tryz.underlying39 rfl hi39) ?_
   simp only [aP, aN, aT, aZ, aS]
   refine wpAnyK_one 5 (by kernel_rfl) rfl rfl (fun K' hK => ?_)
   go_simp
   refine Hcall.out.mono ?_
   rintro e w2 ⟨b9, rfl, hg9, he9⟩
   refine hK.out _ _ (fun h => absurd h (by decide)) ?_
   clear hK K'
   simp only [aP, aN, aT, aZ, aS]
   refine fV 6 (v := ?v9x6) rfl (by rfl) ?y9x6 ?_
   case y9x6 => intro w; go_simp; with_reducible rfl
   simp only [aP, aN, aT, aZ, aS]
   refine wpAnyK_done (by kernel_rfl) ?_ _
   have Hg9 := Lib.hid hg9
   have hx2 : Ext wr w2 := HE1.out.drew.trans he9
   have Hx2 := Lib.hid hx2
   clear hg9 he9 hx2
   cases b9 with
   |false =>
    go_wp2_with fail
    go_ret
    exact AnsB.mk (by simp) (HX.out.trans Hx2.out)
   |true =>
    go_wp2_with fail
    go_roundw
    case rel =>
     refine ⟨i + 1, by omega, rfl, HW.out.trans Hx2.out, fun j t hj ht => ?_⟩
     by_cases hji : j = i
     ·subst hji
      have e := ht.symm.trans Hki.out
      injection e with e
      subst e
      exact Hg9.out (by simp)
     ·exact HG.out j t (by omega) ht
    case measure => simp [intOf]; omega
  ·have hall : ∀ k ∈ V.kids, GoodV n kt k := fun k hk => by
    obtain ⟨j, hj, e⟩ := List.mem_iff_getElem.1 hk
    exact HG.out j k (by omega) (by rw [List.getElem?_eq_getElem hj, e])
   have Hall := Lib.hid hall
   have hb2 := HB2.out.ext HW.out
   obtain ⟨d0, d1, d2, d3, d4, d5, d6, d7, d8, d9, d10⟩ := hb2.c11
   have hlt := hb2.lt
   clear hall hb2
   go_wp2_with fail
   go_ret
   exact AnsB.mk (fun hq => ⟨Hn.out, hlen, .inr (.inl ⟨.inr Hk.out, by simp at hq; exact hq, kt, Hkt.out, Hall.out⟩)⟩) (HE.out.trans HW.out)
end Go.Proofs.YtammjbmfiakbnaaGreatDoor
