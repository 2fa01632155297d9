/- A part of the proof that the card of laws.FnMarshal holds. No conditions. -/
import Derived.Test.YtammjbmfiakbnaaGreatDoorM08
set_option linter.unusedSimpArgs false
set_option linter.unusedVariables false
namespace Go.Proofs.YtammjbmfiakbnaaGreatDoor
open Go.RowKit
set_option maxRecDepth 100000 in
theorem kindX_any (X : Nat → Prop) (v : Value) (T : Ty) (w : World) (hX : ∀ b, X b → b < w.heap.size) (h : ∃ m, TyAt X m w v T) :
  Calls Tryz.prog 8 #[v] w fun e w' => ∃ v' T', e = .returned v' ∧ TyAt X 9 w' v' T' ∧ Cut T' T ∧ Ext w w' := by
 obtain ⟨m, h⟩ := h
 obtain ⟨A, c, A', c', rfl⟩ := h.form
 have H := Lib.hid h
 have HX := Lib.hid hX
 clear h hX
 go_enter Tryz.func8, Tryz.ntmps8
 go_wp2_with fail
 generalize hW : World.alloc _ (Obj.cells #[Value.int IntKind.i64 500] 3) = W
 have h0 : Blk W (w.heap.size + 1 + 1) 3 #[.int .i64 500] ∧ Blk W (w.heap.size + 1) 35 #[.int .i64 0, .slice none 0 0, .slice none 0 0] ∧ Blk W w.heap.size 25 #[.int .i64 T.kind, .slice A T.kids.length c, .slice A' T.names.length c'] ∧ Ext w W := by
  rw [← hW]
  exact ⟨Blk.new' _ _ 3 _ (by simp), (Blk.new' _ _ 35 _ (by simp)).alloc _, ((Blk.new w 25 _).alloc _).alloc _, ((((Ext.refl w).alloc _).alloc _).alloc _)⟩
 clear hW
 obtain ⟨hR, hO, hV, hE⟩ := h0
 have hTy : TyAt (fun b => X b ∨ b = w.heap.size + 1 ∨ b = w.heap.size + 1 + 1) m W (.agg #[.int .i64 T.kind, .slice A T.kids.length c, .slice A' T.names.length c']) T :=
  TyAt.onx (Onx.of_ext hE _) _ _ _ (TyAt.weak (fun b hb => hb.elim .inl (fun hb => .inr (by omega))) _ _ _ H.out)
 have hcall : Calls Tryz.prog 19 #[.agg #[.int .i64 T.kind, .slice A T.kids.length c, .slice A' T.names.length c'], .int .i64 8, .pointer (some ⟨w.heap.size + 1 + 1, 0, none⟩)] W _ := within_any 8 (by omega) (fun b => X b ∨ b = w.heap.size + 1 ∨ b = w.heap.size + 1 + 1) m _ T (w.heap.size + 1 + 1) 500 W (.inr (.inr rfl)) (fun b hb => hb.elim (fun hb => Nat.lt_of_lt_of_le (HX.out b hb) hE.size) (fun hb => by have := hR.lt; omega)) hTy hR ⟨by omega, by omega⟩
 obtain ⟨a0, a1, a2⟩ := hV.c3
 have Hcall := Lib.hid hcall
 have HO := Lib.hid hO
 have HE := Lib.hid hE
 have hlt := hO.lt
 clear hTy hcall hR hO hV hE
 go_wp2_with fail
 refine Hcall.out.mono ?_
 rintro e w2 ⟨v2, T2, r2, rfl, ht2, hc2, hr2, hR2, ho2⟩
 obtain ⟨zA, zc, zA', zc', rfl⟩ := ht2.form
 have hO2 := ho2.blk HO.out (by omega)
 obtain ⟨o0, o1, o2⟩ := hO2.c3
 have of : ∀ i, w2.frozen? ⟨w.heap.size + 1, i, none⟩ = false := fun i => hO2.frozen i
 have Ht2 := Lib.hid ht2
 have HO2 := Lib.hid hO2
 have Ho2 := Lib.hid ho2
 clear ht2 hO2 ho2 hR2
 go_wp2_with fail
 generalize hWf : World.setCell _ ⟨w.heap.size + 1, 2, none⟩ _ = Wf
 have hOf : Blk Wf (w.heap.size + 1) 35 #[.int .i64 T2.kind, .slice zA T2.kids.length zc, .slice zA' T2.names.length zc'] := by
  rw [← hWf]
  exact Blk.set_ (Blk.set_ (Blk.set_ HO2.out 0 _) 1 _) 2 _
 have hd : ∀ k, k ≠ w.heap.size + 1 → Wf.heap[k]? = w2.heap[k]? := fun k hk => by
  rw [← hWf]
  exact (Below.heap_setCell _ ⟨w.heap.size + 1, 2, none⟩ _ k hk).trans ((Below.heap_setCell _ ⟨w.heap.size + 1, 1, none⟩ _ k hk).trans (Below.heap_setCell _ ⟨w.heap.size + 1, 0, none⟩ _ k hk))
 have hs : Wf.heap.size = w2.heap.size := by rw [← hWf]; simp [World.setCell]
 have ht : TyAt X 9 Wf (.agg #[.int .i64 T2.kind, .slice zA T2.kids.length zc, .slice zA' T2.names.length zc']) T2 :=
  TyAt.weak (fun b hb => .inl (.inl hb)) _ _ _ (TyAt.onx (⟨by omega, fun k _ hx => hd k (fun e => hx (.inr (.inl e)))⟩ : Onx (fun b => X b ∨ b = w.heap.size + 1 ∨ b = w.heap.size + 1 + 1) w2 Wf) _ _ _ Ht2.out)
 have hE : Ext w Wf := by
  obtain ⟨g1, g2, g3, g4, g5⟩ := Ho2.out
  have hE := HE.out
  have hz := hE.size
  refine ⟨?_, ?_, ?_, by omega, fun k hk => ?_⟩
  ·rw [← hWf]; exact g1.trans hE.os
  ·rw [← hWf]; exact g2.trans hE.tape
  ·rw [← hWf]; exact g3.trans hE.output
  ·exact (hd k (by omega)).trans ((g5 k (by omega) (by omega)).trans (hE.block k hk))
 clear hWf
 obtain ⟨z0, z1, z2⟩ := hOf.c3
 exact bodyPost_ret (by simp [results, Tryz.results8, go_sem, z0, z1, z2]) rfl ⟨_, T2, rfl, ht, hc2, hE⟩
set_option maxRecDepth 100000 in
theorem valueX_any (X : Nat → Prop) (v : List Value) (V : Vl) (w : World) (hX : ∀ b, X b → b < w.heap.size) (h : ∃ m, VlAt X m w v V) :
  Calls Tryz.prog 9 #[.agg v.toArray] w fun e w' => ∃ v' V', e = .returned (.agg (List.toArray v')) ∧ VlAt X 9 w' v' V' ∧ (V' = Vl.bad ∨ V' = cutAt 8 V) ∧ Ext w w' := by
 obtain ⟨m, h⟩ := h
 obtain ⟨A, c, A1, c1, A2, c2, rfl, hs⟩ := h.form
 have H := Lib.hid h
 have HX := Lib.hid hX
 clear h hX
 simp only [vcells]
 go_enter Tryz.func9, Tryz.ntmps9
 go_upto_region 2 with fail
 generalize hW : World.alloc _ (Obj.cells #[Value.int IntKind.i64 5000] 3) = W
 have h0 : Blk W (w.heap.size + 1 + 1) 3 #[.int .i64 5000] ∧ Blk W (w.heap.size + 1) 39 #[.bool false, .int .i64 0, .float .f64 0, .string ⟨#[]⟩, .slice none 0 0, .int .i64 0, .int .i64 0, .int .i64 0, .int .i64 0, .slice none 0 0, .slice none 0 0] ∧ Blk W w.heap.size 30 #[.bool V.sc.nul, .int .i64 V.sc.n, .float .f64 V.sc.f, .string V.sc.text, .slice A V.sc.data.length c, .int .i64 V.sc.scale, .int .i64 V.sc.months, .int .i64 V.sc.days, .int .i64 V.sc.nanos, .slice A1 V.keys.length c1, .slice A2 V.kids.length c2] ∧ Ext w W := by
  rw [← hW]
  exact ⟨Blk.new' _ _ 3 _ (by simp), (Blk.new' _ _ 39 _ (by simp)).alloc _, ((Blk.new w 30 _).alloc _).alloc _, ((((Ext.refl w).alloc _).alloc _).alloc _)⟩
 clear hW
 obtain ⟨hR, hO, hV, hE⟩ := h0
 have hTy : VlAt (fun b => X b ∨ b = w.heap.size + 1 ∨ b = w.heap.size + 1 + 1) m W [.bool V.sc.nul, .int .i64 V.sc.n, .float .f64 V.sc.f, .string V.sc.text, .slice A V.sc.data.length c, .int .i64 V.sc.scale, .int .i64 V.sc.months, .int .i64 V.sc.days, .int .i64 V.sc.nanos, .slice A1 V.keys.length c1, .slice A2 V.kids.length c2] V :=
  VlAt.onx (Onx.of_ext hE _) _ _ _ (VlAt.weak (fun b hb => hb.elim .inl (fun hb => .inr (by omega))) _ _ _ H.out)
 have hcall : Calls Tryz.prog 20 #[.agg #[.bool V.sc.nul, .int .i64 V.sc.n, .float .f64 V.sc.f, .string V.sc.text, .slice A V.sc.data.length c, .int .i64 V.sc.scale, .int .i64 V.sc.months, .int .i64 V.sc.days, .int .i64 V.sc.nanos, .slice A1 V.keys.length c1, .slice A2 V.kids.length c2], .int .i64 8, .pointer (some ⟨w.heap.size + 1 + 1, 0, none⟩)] W _ :=
  among_any 8 (by omega) (fun b => X b ∨ b = w.heap.size + 1 ∨ b = w.heap.size + 1 + 1) m _ V (w.heap.size + 1 + 1) 5000 W (.inr (.inr rfl)) (fun b hb => hb.elim (fun hb => Nat.lt_of_lt_of_le (HX.out b hb) hE.size) (fun hb => by have := hR.lt; omega)) hTy hR ⟨by omega, by omega⟩
 have Hcall := Lib.hid hcall
 have hrg : W.rangeAt w.heap.size 0 [.bool V.sc.nul, .int .i64 V.sc.n, .float .f64 V.sc.f, .string V.sc.text, .slice A V.sc.data.length c, .int .i64 V.sc.scale, .int .i64 V.sc.months, .int .i64 V.sc.days, .int .i64 V.sc.nanos, .slice A1 V.keys.length c1, .slice A2 V.kids.length c2] := Blk.range hV
 have HO := Lib.hid hO
 have HE := Lib.hid hE
 have hlt := hO.lt
 clear hTy hcall hR hO hV hE
 refine wp_region_lit ?_
 refine wpList_load_mid rfl 30 _ rfl w.heap.size 0 (by rfl) [.bool V.sc.nul, .int .i64 V.sc.n, .float .f64 V.sc.f, .string V.sc.text, .slice A V.sc.data.length c, .int .i64 V.sc.scale, .int .i64 V.sc.months, .int .i64 V.sc.days, .int .i64 V.sc.nanos, .slice A1 V.keys.length c1, .slice A2 V.kids.length c2] _ hrg Tryz.underlying30 rfl hi30 ?_
 simp only [aP, aN, aT, aZ, aS]
 clear hrg
 refine wpList_plain rfl (fun K hK => ?_)
 go_simp
 refine Hcall.out.mono ?_
 rintro e w2 ⟨v2, T2, r2, rfl, ht2, hc2, hr2, hR2, ho2⟩
 obtain ⟨zA, zc, zA1, zc1, zA2, zc2, rfl, _⟩ := ht2.form
 simp only [vcells]
 refine hK _ _ ?_
 clear hK K
 try simp only [aP, aN, aT, aZ, aS]
 have hO2 := ho2.blk HO.out (by omega)
 refine wpList_store_mid rfl 39 _ _ rfl (w.heap.size + 1) 0 #[.bool T2.sc.nul, .int .i64 T2.sc.n, .float .f64 T2.sc.f, .string T2.sc.text, .slice zA T2.sc.data.length zc, .int .i64 T2.sc.scale, .int .i64 T2.sc.months, .int .i64 T2.sc.days, .int .i64 T2.sc.nanos, .slice zA1 T2.keys.length zc1, .slice zA2 T2.kids.length zc2] (by rfl) (by rfl) (hO2.there rfl) hi39 (by simp [Value.oneCell']) ?_
 generalize hWf : World.setCells w2 _ _ _ = Wf
 have hOf : Blk Wf (w.heap.size + 1) 39 #[.bool T2.sc.nul, .int .i64 T2.sc.n, .float .f64 T2.sc.f, .string T2.sc.text, .slice zA T2.sc.data.length zc, .int .i64 T2.sc.scale, .int .i64 T2.sc.months, .int .i64 T2.sc.days, .int .i64 T2.sc.nanos, .slice zA1 T2.keys.length zc1, .slice zA2 T2.kids.length zc2] := hWf ▸ Blk.setCells hO2 rfl
 have hd : ∀ k, k ≠ w.heap.size + 1 → Wf.heap[k]? = w2.heap[k]? := fun k hk => hWf ▸ setCells_heap _ _ _ _ k hk
 have hs2 : Wf.heap.size = w2.heap.size := hWf ▸ setCells_size _ _ _ _
 have ht : VlAt X 9 Wf [.bool T2.sc.nul, .int .i64 T2.sc.n, .float .f64 T2.sc.f, .string T2.sc.text, .slice zA T2.sc.data.length zc, .int .i64 T2.sc.scale, .int .i64 T2.sc.months, .int .i64 T2.sc.days, .int .i64 T2.sc.nanos, .slice zA1 T2.keys.length zc1, .slice zA2 T2.kids.length zc2] T2 :=
  VlAt.weak (fun b hb => .inl (.inl hb)) _ _ _ (VlAt.onx (⟨by omega, fun k _ hx => hd k (fun e => hx (.inr (.inl e)))⟩ : Onx (fun b => X b ∨ b = w.heap.size + 1 ∨ b = w.heap.size + 1 + 1) w2 Wf) _ _ _ ht2)
 have hE : Ext w Wf := by
  obtain ⟨g1, g2, g3, g4, g5⟩ := setCells_one (w := W) (R := w.heap.size + 1 + 1) (b := W.heap.size) (Nat.le_refl _) [] 0 _ ho2
  have hE := HE.out
  have hz := hE.size
  have hos : Wf.os = w2.os ∧ Wf.tape = w2.tape ∧ Wf.output = w2.output := by
   rw [← hWf]
   exact setCells_os _ _ _ _
  refine ⟨hos.1.trans (g1.trans hE.os), hos.2.1.trans (g2.trans hE.tape), hos.2.2.trans (g3.trans hE.output), by have : W.heap.size ≤ w2.heap.size := g4; omega, fun k hk => ?_⟩
  exact (hd k (by omega)).trans ((g5 k (by omega) (by omega)).trans (hE.block k hk))
 clear hWf
 obtain ⟨z0, z1, z2, z3, z4, z5, z6, z7, z8, z9, z10⟩ := hOf.c11
 have HT := Lib.hid ht
 have HE2 := Lib.hid hE
 have Hc2 := Lib.hid hc2
 clear ht hE hc2 ht2 ho2 hd hO2 hR2
 go_wp2_with fail
 exact bodyPost_ret (by simp [results, Tryz.results9, go_sem, z0, z1, z2, z3, z4, z5, z6, z7, z8, z9, z10]) rfl ⟨_, T2, rfl, HT.out, Hc2.out.1, HE2.out⟩
end Go.Proofs.YtammjbmfiakbnaaGreatDoor
