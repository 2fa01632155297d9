/-
  spec.ascii, laws.zzFits1 and zzFits2, laws.kind. No conditions but that what comes in lies in memory.
-/
import Derived.Test.YtammjbmfiakbnaaGreatDoorWit
namespace Go.Proofs.YtammjbmfiakbnaaGreatDoor
open Go.RowKit

/-- A truth value is answered, and nothing else is done. -/
def AnsQ (Q : Bool → Prop) (w : World) (e : Ending) (w' : World) : Prop := ∃ b : Bool, e = .returned (.bool b) ∧ Q b ∧ w = w'
/-- A truth value is answered, and what was there is as it was. -/
def AnsB (Q : Bool → Prop) (w : World) (e : Ending) (w' : World) : Prop := ∃ b : Bool, e = .returned (.bool b) ∧ Q b ∧ Ext w w'
theorem AnsQ.mk {Q : Bool → Prop} {w : World} {b : Bool} (h : Q b) : AnsQ Q w (.returned (.bool b)) w := ⟨b, rfl, h, rfl⟩
theorem AnsB.mk {Q : Bool → Prop} {w w' : World} {b : Bool} (h : Q b) (he : Ext w w') : AnsB Q w (.returned (.bool b)) w' := ⟨b, rfl, h, he⟩

set_option maxRecDepth 100000 in
theorem ascii_any (s : ByteArray) (hs : s.size ≤ maxLen) (w : World) : Calls Tryz.prog 35 #[.string s] w (AnsQ (fun b => b = true → s.size ≤ 100) w) := by
  unfold maxLen at hs
  go_enter Tryz.func35, Tryz.ntmps35
  go_wp2
  go_loop [3, 6] (fun _ i => ∃ k : Nat, k ≤ s.size ∧ i = .int .i64 k) (fun _ i => s.size - (intOf i).toNat)
  case atStart => exact ⟨0, Nat.zero_le _, rfl⟩
  case round =>
    obtain ⟨k, hk, rfl⟩ := hrel
    by_cases hlt : k < s.size
    · by_cases hb : 128 ≤ (s[k].toNat : Int)
      · go_wp2
        go_ret
        exact AnsQ.mk (by simp)
      · go_wp2
        go_round
        case rel => exact ⟨k + 1, by omega, by go_num⟩
        case measure => simp [intOf]; omega
    · go_wp2
      go_ret
      exact AnsQ.mk (by simp; omega)

set_option maxRecDepth 100000 in
theorem fits2_any (A : Option Addr) (c : Nat) (ns : List ByteArray) (X : Nat → Prop) (h1 : ns.length ≤ c) (h2 : c ≤ maxLen) (w : World) (h : SegR X w A (ns.map Value.string)) :
    Calls Tryz.prog 18 #[.slice A ns.length c] w (AnsQ (fun _ => True) w) := by
  unfold maxLen at h2
  by_cases hbig : (2147483647 : Int) < ns.length
  · clear h
    go_enter Tryz.func18, Tryz.ntmps18
    go_wp2
    go_ret
    exact AnsQ.mk trivial
  have H := Lib.hid h
  clear h
  go_enter Tryz.func18, Tryz.ntmps18
  go_wp2
  go_loop [4, 10] (fun _ i => ∃ k : Nat, k ≤ ns.length ∧ i = .int .i64 k) (fun _ i => ns.length - (intOf i).toNat)
  case atStart => exact ⟨0, Nat.zero_le _, rfl⟩
  case round =>
    obtain ⟨k, hk, rfl⟩ := hrel
    by_cases hlt : k < ns.length
    · obtain ⟨b, o, rfl, hb, hX, hc⟩ := H.out (by intro e; simp at e; subst e; simp at hlt)
      have c0 : w.cell? ⟨b, o + k, none⟩ = some (.string ns[k]) := hc k _ (by simp [List.getElem?_eq_getElem hlt])
      clear hc
      generalize ns[k] = s at c0
      by_cases hz : (2147483647 : Int) < s.size
      · go_wp2
        go_ret
        exact AnsQ.mk trivial
      · go_wp2
        go_round
        case rel => exact ⟨k + 1, by omega, by go_num⟩
        case measure => simp [intOf]; omega
    · go_wp2
      go_ret
      exact AnsQ.mk trivial

set_option maxRecDepth 100000 in
theorem fits1_any (X : Nat → Prop) (m : Nat) (v : Value) (T : Ty) (w : World) (h : TyAt X m w v T) :
    Calls Tryz.prog 6 #[v] w (AnsB (fun _ => True) w) := by
  cases m with
  | zero => exact h.elim
  | succ m =>
    obtain ⟨A, c, A', c', cs, rfl, h1, h2, h3, h4, hnb, h5, h6, h7, h8⟩ := h
    have H5 := Lib.hid h5
    clear hnb h5 h6 h7 h8
    by_cases hbig : (2147483647 : Int) < T.kids.length
    · go_enter Tryz.func6, Tryz.ntmps6
      go_wp2_with fail
      go_ret
      exact AnsB.mk trivial ((Ext.refl _).alloc _)
    · have hn : SegR X (w.alloc (.cells #[.int .i64 T.kind, .slice A T.kids.length c, .slice A' T.names.length c'] 25)) A' (T.names.map Value.string) := H5.out.onx (Onx.of_ext ((Ext.refl w).alloc _) X)
      have Hn := Lib.hid (fits2_any A' c' T.names X h3 h4 _ hn)
      clear hn
      go_enter Tryz.func6, Tryz.ntmps6
      go_wp2_with fail
      refine Hn.out.mono ?_
      rintro e w' ⟨b, rfl, _, rfl⟩
      cases b
      · go_wp2_with fail
        go_ret
        exact AnsB.mk trivial ((Ext.refl _).alloc _)
      · go_wp2_with fail
        go_ret
        exact AnsB.mk trivial ((Ext.refl _).alloc _)

/-- A type as it comes in. -/
def TyIn (w : World) (v : Value) (T : Ty) : Prop := ∃ m, TyAt (fun _ => False) m w v T

set_option maxRecDepth 100000 in
theorem kind_any (v : Value) (T : Ty) (w : World) (h : TyIn w v T) :
    Calls Tryz.prog 8 #[v] w fun e w' => ∃ v' T', e = .returned v' ∧ TyAt (fun _ => False) 9 w' v' T' ∧ Cut T' T ∧ Ext w w' := by
  obtain ⟨m, h⟩ := h
  obtain ⟨A, c, A', c', rfl⟩ := h.form
  have H := Lib.hid h
  clear h
  go_enter Tryz.func8, Tryz.ntmps8
  go_wp2_with fail
  generalize hW : World.alloc _ (Obj.cells #[Value.int IntKind.i64 500] 3) = W
  have h0 : Blk W (w.heap.size + 1 + 1) 3 #[.int .i64 500] ∧ Blk W (w.heap.size + 1) 35 #[.int .i64 0, .slice none 0 0, .slice none 0 0] ∧ Blk W w.heap.size 25 #[.int .i64 T.kind, .slice A T.kids.length c, .slice A' T.names.length c'] ∧ Ext w W := by
    rw [← hW]
    exact ⟨Blk.new' _ _ 3 _ (by simp), (Blk.new' _ _ 35 _ (by simp)).alloc _, ((Blk.new w 25 _).alloc _).alloc _, ((((Ext.refl w).alloc _).alloc _).alloc _)⟩
  clear hW
  obtain ⟨hR, hO, hV, hE⟩ := h0
  have hTy : TyAt (fun b => b = w.heap.size + 1 ∨ b = w.heap.size + 1 + 1) m W (.agg #[.int .i64 T.kind, .slice A T.kids.length c, .slice A' T.names.length c']) T :=
    TyAt.onx (Onx.of_ext hE _) _ _ _ (TyAt.weak (fun b hb => .inr (by omega)) _ _ _ H.out)
  have hcall : Calls Tryz.prog 19 #[.agg #[.int .i64 T.kind, .slice A T.kids.length c, .slice A' T.names.length c'], .int .i64 8, .pointer (some ⟨w.heap.size + 1 + 1, 0, none⟩)] W _ := within_any 8 (by omega) (fun b => b = w.heap.size + 1 ∨ b = w.heap.size + 1 + 1) m _ T (w.heap.size + 1 + 1) 500 W (.inr rfl) (fun b hb => by have := hR.lt; omega) hTy hR ⟨by omega, by omega⟩
  obtain ⟨a0, a1, a2⟩ := hV.c3
  have Hcall := Lib.hid hcall
  have HO := Lib.hid hO
  have HE := Lib.hid hE
  have hlt := hO.lt
  clear hTy hcall hR hO hV hE
  go_wp2_with fail
  refine Hcall.out.mono ?_
  rintro e w2 ⟨v2, T2, r2, rfl, ht2, hc2, hr2, hR2, ho2⟩
  obtain ⟨zA, zc, zA', zc', rfl⟩ := ht2.form
  have hO2 := ho2.blk HO.out (by omega)
  obtain ⟨o0, o1, o2⟩ := hO2.c3
  have of : ∀ i, w2.frozen? ⟨w.heap.size + 1, i, none⟩ = false := fun i => hO2.frozen i
  have Ht2 := Lib.hid ht2
  have HO2 := Lib.hid hO2
  have Ho2 := Lib.hid ho2
  clear ht2 hO2 ho2 hR2
  go_wp2_with fail
  generalize hWf : World.setCell _ ⟨w.heap.size + 1, 2, none⟩ _ = Wf
  have hOf : Blk Wf (w.heap.size + 1) 35 #[.int .i64 T2.kind, .slice zA T2.kids.length zc, .slice zA' T2.names.length zc'] := by
    rw [← hWf]
    exact Blk.set_ (Blk.set_ (Blk.set_ HO2.out 0 _) 1 _) 2 _
  have hd : ∀ k, k ≠ w.heap.size + 1 → Wf.heap[k]? = w2.heap[k]? := fun k hk => by
    rw [← hWf]
    exact (Below.heap_setCell _ ⟨w.heap.size + 1, 2, none⟩ _ k hk).trans ((Below.heap_setCell _ ⟨w.heap.size + 1, 1, none⟩ _ k hk).trans (Below.heap_setCell _ ⟨w.heap.size + 1, 0, none⟩ _ k hk))
  have hs : Wf.heap.size = w2.heap.size := by rw [← hWf]; simp [World.setCell]
  have ht : TyAt (fun _ => False) 9 Wf (.agg #[.int .i64 T2.kind, .slice zA T2.kids.length zc, .slice zA' T2.names.length zc']) T2 :=
    TyAt.weak (fun b hb => hb.elim) _ _ _ (TyAt.onx (⟨by omega, fun k _ hx => hd k (fun e => hx (.inl e))⟩ : Onx (fun b => b = w.heap.size + 1 ∨ b = w.heap.size + 1 + 1) w2 Wf) _ _ _ Ht2.out)
  have hE : Ext w Wf := by
    obtain ⟨g1, g2, g3, g4, g5⟩ := Ho2.out
    have hE := HE.out
    have hz := hE.size
    refine ⟨?_, ?_, ?_, by omega, fun k hk => ?_⟩
    · rw [← hWf]; exact g1.trans hE.os
    · rw [← hWf]; exact g2.trans hE.tape
    · rw [← hWf]; exact g3.trans hE.output
    · exact (hd k (by omega)).trans ((g5 k (by omega) (by omega)).trans (hE.block k hk))
  clear hWf
  obtain ⟨z0, z1, z2⟩ := hOf.c3
  exact bodyPost_ret (by simp [results, Tryz.results8, go_sem, z0, z1, z2]) rfl ⟨_, T2, rfl, ht, hc2, hE⟩
end Go.Proofs.YtammjbmfiakbnaaGreatDoor
