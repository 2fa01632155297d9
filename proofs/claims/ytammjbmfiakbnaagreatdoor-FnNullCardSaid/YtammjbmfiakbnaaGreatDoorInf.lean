/-
  impl.info: a known type as the package has it. Condition: the type lies in memory and is known.
-/
import Derived.Test.YtammjbmfiakbnaaGreatDoorKnd
import Derived.Test.YtammjbmfiakbnaaGreatDoorWorks
import Derived.Test.YtammjbmfiakbnaaGreatDoorWr
import Derived.Deep.Cut
namespace Go.Proofs.YtammjbmfiakbnaaGreatDoor
open Go.RowKit

/-- A relation on memory that hangs on blocks outside of a set alone. -/
structure Rel (R : (Nat → Prop) → World → Prop) : Prop where
  onx : ∀ (X : Nat → Prop) (w w' : World), Onx X w w' → R X w → R X w'
  weak : ∀ (X X' : Nat → Prop) (w : World), (∀ b, X' b → X b ∨ w.heap.size ≤ b) → R X w → R X' w
/-- A set, and the block of a row. -/
def XI (X : Nat → Prop) (kv : Value) (b : Nat) : Prop := X b ∨ kv.ownBlock = some b
theorem Rel.ext {R : (Nat → Prop) → World → Prop} (hR : Rel R) {X : Nat → Prop} {w w' : World} (h : R X w) (he : Ext w w') : R X w' := hR.onx X w w' (Onx.of_ext he X) h
/-- The row grows. -/
theorem Rel.grow {R : (Nat → Prop) → World → Prop} (hR : Rel R) {X : Nat → Prop} {kv : Value} {w2 w3 : World} {gg n cap : Nat} {ob : Obj} (h : R (XI X kv) w2)
    (hgrow : (w2.alloc ob).grownBy w3 kv.ownBlock) (hat : kv.ownBlock = some gg ∨ gg = w2.heap.size + 1) : R (XI X (.slice (some ⟨gg, 0, none⟩) n cap)) w3 := by
  have h1 := hR.weak _ (fun b => XI X kv b ∨ b = gg) w2 (fun b hb => by
    rcases hb with hb | rfl
    · exact .inl hb
    · rcases hat with h | h
      · exact .inl (.inr h)
      · exact .inr (by omega)) h
  have h2 := hR.onx _ w2 w3 ⟨by have := hgrow.size; simp at this; omega, fun k hk hx => (hgrow.block k (by simp; omega) (fun e => hx (.inl (.inr e.symm)))).trans (((Ext.refl w2).alloc ob).block k hk)⟩ h1
  refine hR.weak _ _ w3 (fun b hb => .inl ?_) h2
  rcases hb with hb | hb
  · exact .inl (.inl hb)
  · injection hb with hb
    exact .inr hb.symm

/-- A type as the package has it, outside of a set of blocks. -/
def InfoAt (X : Nat → Prop) : Nat → World → Value → Ty → Prop
  | 0, _, _, _ => False
  | n + 1, w, I, T =>
    (1 ≤ T.kind ∧ T.kind ≤ 21 ∧ T.kind ≠ 10 ∧ T.kids = [] ∧ I = .iface 94 (natT T.kind)) ∨
    ((T.kind = 32 ∨ T.kind = 34) ∧ ∃ t te ve, T.kids = [t] ∧ I = .iface 98 (.agg #[.int .u8 4, .int .i64 T.kind, .string ⟨#[]⟩, .nilIface, .iface te ve]) ∧ InfoAt X n w (.iface te ve) t) ∨
    (T.kind = 33 ∧ ∃ t t' te ve te' ve', T.kids = [t, t'] ∧ I = .iface 98 (.agg #[.int .u8 4, .int .i64 33, .string ⟨#[]⟩, .iface te ve, .iface te' ve']) ∧ InfoAt X n w (.iface te ve) t ∧ InfoAt X n w (.iface te' ve') t') ∨
    (T.kind = 49 ∧ ∃ A c is, I = .iface 100 (.agg #[.int .u8 4, .int .i64 49, .string ⟨#[]⟩, .slice A T.kids.length c]) ∧ T.kids.length ≤ c ∧ is.length = T.kids.length ∧ SegR X w A is ∧
      ∀ (i : Nat) (t : Ty), T.kids[i]? = some t → ∃ te ve, is[i]? = some (.iface te ve) ∧ InfoAt X n w (.iface te ve) t) ∨
    (T.kind = 48 ∧ ∃ A c is, I = .iface 103 (.agg #[.int .u8 4, .int .i64 48, .string ⟨#[]⟩, .string ⟨#[]⟩, .string ⟨#[]⟩, .slice A T.kids.length c]) ∧ T.kids.length ≤ c ∧ is.length = T.kids.length * 2 ∧ SegR X w A is ∧
      ∀ (i : Nat) (t : Ty), T.kids[i]? = some t → ∃ s te ve, T.names[i]? = some s ∧ is[i * 2]? = some (.string s) ∧ is[i * 2 + 1]? = some (.iface te ve) ∧ InfoAt X n w (.iface te ve) t)

theorem InfoAt.onx {X : Nat → Prop} {w w' : World} (ho : Onx X w w') : ∀ (n : Nat) (I : Value) (T : Ty), InfoAt X n w I T → InfoAt X n w' I T
  | 0, _, _, h => h
  | n + 1, I, T, h => by
    rcases h with h | ⟨h, t, te, ve, h1, h2, h3⟩ | ⟨h, t, t', te, ve, te', ve', h1, h2, h3, h4⟩ | ⟨h, A, c, is, h1, h2, h3, h4, h5⟩ | ⟨h, A, c, is, h1, h2, h3, h4, h5⟩
    · exact .inl h
    · exact .inr (.inl ⟨h, t, te, ve, h1, h2, InfoAt.onx ho n _ _ h3⟩)
    · exact .inr (.inr (.inl ⟨h, t, t', te, ve, te', ve', h1, h2, InfoAt.onx ho n _ _ h3, InfoAt.onx ho n _ _ h4⟩))
    · refine .inr (.inr (.inr (.inl ⟨h, A, c, is, h1, h2, h3, h4.onx ho, fun i t ht => ?_⟩)))
      obtain ⟨te, ve, hx, hi⟩ := h5 i t ht
      exact ⟨te, ve, hx, InfoAt.onx ho n _ _ hi⟩
    · refine .inr (.inr (.inr (.inr ⟨h, A, c, is, h1, h2, h3, h4.onx ho, fun i t ht => ?_⟩)))
      obtain ⟨s, te, ve, hs, hx, hy, hi⟩ := h5 i t ht
      exact ⟨s, te, ve, hs, hx, hy, InfoAt.onx ho n _ _ hi⟩
theorem InfoAt.weak {X X' : Nat → Prop} {w : World} (hx : ∀ b, X' b → X b ∨ w.heap.size ≤ b) : ∀ (n : Nat) (I : Value) (T : Ty), InfoAt X n w I T → InfoAt X' n w I T
  | 0, _, _, h => h
  | n + 1, I, T, h => by
    rcases h with h | ⟨h, t, te, ve, h1, h2, h3⟩ | ⟨h, t, t', te, ve, te', ve', h1, h2, h3, h4⟩ | ⟨h, A, c, is, h1, h2, h3, h4, h5⟩ | ⟨h, A, c, is, h1, h2, h3, h4, h5⟩
    · exact .inl h
    · exact .inr (.inl ⟨h, t, te, ve, h1, h2, InfoAt.weak hx n _ _ h3⟩)
    · exact .inr (.inr (.inl ⟨h, t, t', te, ve, te', ve', h1, h2, InfoAt.weak hx n _ _ h3, InfoAt.weak hx n _ _ h4⟩))
    · refine .inr (.inr (.inr (.inl ⟨h, A, c, is, h1, h2, h3, h4.weak hx, fun i t ht => ?_⟩)))
      obtain ⟨te, ve, hx', hi⟩ := h5 i t ht
      exact ⟨te, ve, hx', InfoAt.weak hx n _ _ hi⟩
    · refine .inr (.inr (.inr (.inr ⟨h, A, c, is, h1, h2, h3, h4.weak hx, fun i t ht => ?_⟩)))
      obtain ⟨s, te, ve, hs, hx', hy, hi⟩ := h5 i t ht
      exact ⟨s, te, ve, hs, hx', hy, InfoAt.weak hx n _ _ hi⟩
theorem InfoAt.rel (n : Nat) (I : Value) (T : Ty) : Rel (fun X w => InfoAt X n w I T) := ⟨fun _ _ _ ho h => InfoAt.onx ho n I T h, fun _ _ _ hx h => InfoAt.weak hx n I T h⟩
theorem InfoAt.form {X : Nat → Prop} {n : Nat} {w : World} {I : Value} {T : Ty} (h : InfoAt X n w I T) : ∃ te ve, I = .iface te ve := by
  cases n with
  | zero => exact h.elim
  | succ n =>
    rcases h with h | ⟨h, t, te, ve, h1, h2, h3⟩ | ⟨h, t, t', te, ve, te', ve', h1, h2, h3, h4⟩ | ⟨h, A, c, is, h1, h2, h3, h4, h5⟩ | ⟨h, A, c, is, h1, h2, h3, h4, h5⟩
    · exact ⟨_, _, h.2.2.2.2⟩
    · exact ⟨_, _, h2⟩
    · exact ⟨_, _, h2⟩
    · exact ⟨_, _, h1⟩
    · exact ⟨_, _, h1⟩

/-- What info answers. -/
def InfoPost (X : Nat → Prop) (n : Nat) (T : Ty) (w : World) (e : Ending) (w' : World) : Prop :=
  ∃ te ve, e = .returned (.tuple #[.iface te ve, .bool true]) ∧ InfoAt X n w' (.iface te ve) T ∧ Ext w w'

theorem info60 : (Tryz.prog.info? 60).map (fun i => (i.zero, i.size, i.bytes)) = some (some .nilIface, 1, 16) := by kernel_rfl

/-- What info's loop keeps. -/
structure ILoop (X : Nat → Prop) (n : Nat) (T : Ty) (w wr : World) (i : Nat) (kv : Value) (is : List Value) : Prop where
  le : i ≤ T.kids.length
  ext : Ext w wr
  own : wr.ownsRow w.heap.size 60 1 kv i is
  kids : ∀ (j : Nat) (t : Ty), j < i → T.kids[j]? = some t → ∃ te ve, is[j]? = some (.iface te ve) ∧ InfoAt (XI X kv) n wr (.iface te ve) t

theorem Shape.few {T : Ty} (h : Shape T) : T.kids.length ≤ 10 := by
  rcases h with ⟨_, h, _⟩ | ⟨_, h, _⟩ | ⟨_, _, h, _⟩ | ⟨_, _, h, _⟩ | ⟨_, _, _, h, _⟩
  · omega
  · omega
  · exact h
  · exact h
  · rw [h]; simp

theorem iloop_step {X : Nat → Prop} {n : Nat} {T kt : Ty} {w wr W1 w2 w3 : World} {i gg cap : Nat} {kv : Value} {is : List Value} {te : TypeId} {ve : Value} {ob : Obj}
    (L : ILoop X n T w wr i kv is) (hi : T.kids[i]? = some kt) (hE1 : Ext wr W1) (hE2 : Ext W1 w2) (hI : InfoAt (XI X kv) n w2 (.iface te ve) kt)
    (hown : w3.ownsRow w.heap.size 60 1 (.slice (some ⟨gg, 0, none⟩) (i + 1) cap) (i + 1) (is ++ [.iface te ve])) (hgrow : (w2.alloc ob).grownBy w3 kv.ownBlock) (hat : kv.ownBlock = some gg ∨ gg = w2.heap.size + 1) :
    ILoop X n T w w3 (i + 1) (.slice (some ⟨gg, 0, none⟩) (i + 1) cap) (is ++ [.iface te ve]) := by
  have hlt := (List.getElem?_eq_some_iff.1 hi).1
  have hlen : is.length = i := by have := L.own.1; omega
  refine ⟨by omega, ?_, hown, fun j t hj ht => ?_⟩
  · exact (((L.ext.trans hE1).trans hE2).alloc ob).grown hgrow (fun k hk => (own_block L.own hk).1)
  · by_cases hji : j = i
    · subst hji
      rw [hi] at ht
      injection ht with ht
      subst ht
      exact ⟨te, ve, by rw [List.getElem?_append_right (by omega)]; simp [hlen], (InfoAt.rel n _ _).grow hI hgrow hat⟩
    · obtain ⟨te', ve', hx, hi'⟩ := L.kids j t (by omega) ht
      exact ⟨te', ve', by rw [List.getElem?_append_left (by omega)]; exact hx, (InfoAt.rel n _ _).grow ((InfoAt.rel n _ _).ext hi' (hE1.trans hE2)) hgrow hat⟩

theorem list2 {α : Type} {l : List α} (h : l.length = 2) : ∃ a b, l = [a, b] := by
  match l, h with
  | [a, b], _ => exact ⟨a, b, rfl⟩

theorem info105 : (Tryz.prog.info? 105).map (fun i => (i.zero, i.size, i.bytes)) = some (some (.agg #[.string ⟨#[]⟩, .nilIface]), 2, 32) := by kernel_rfl

/-- What info's second loop keeps. -/
structure ULoop (k : Int) (ns : List ByteArray) (is : List Value) (wr wu : World) (j : Nat) (fv : Value) (fcs : List Value) : Prop where
  ext : Ext wr wu
  blk : Blk wu wr.heap.size 103 #[.int .u8 4, .int .i64 k, .string ⟨#[]⟩, .string ⟨#[]⟩, .string ⟨#[]⟩, fv]
  own : wu.ownsRow (wr.heap.size + 1) 105 2 fv j fcs
  cells : ∀ (a : Nat) (s : ByteArray) (x : Value), a < j → ns[a]? = some s → is[a]? = some x → fcs[a * 2]? = some (.string s) ∧ fcs[a * 2 + 1]? = some x

theorem uloop_step {k : Int} {ns : List ByteArray} {is : List Value} {wr wu w3 : World} {j gg cap : Nat} {fv x : Value} {fcs : List Value} {s : ByteArray} {ob : Obj}
    (L : ULoop k ns is wr wu j fv fcs) (hs : ns[j]? = some s) (hx : is[j]? = some x) (hown : w3.ownsRow (wr.heap.size + 1) 105 2 (.slice (some ⟨gg, 0, none⟩) (j + 1) cap) (j + 1) (fcs ++ [.string s, x]))
    (hgrow : (wu.drew.alloc ob).grownBy w3 fv.ownBlock) (hat : fv.ownBlock = some gg ∨ gg = wu.heap.size + 1) :
    ULoop k ns is wr (w3.setCell ⟨wr.heap.size, 5, none⟩ (.slice (some ⟨gg, 0, none⟩) (j + 1) cap)) (j + 1) (.slice (some ⟨gg, 0, none⟩) (j + 1) cap) (fcs ++ [.string s, x]) := by
  have hlen : fcs.length = j * 2 := L.own.1
  have hp := L.blk.lt
  have hkb : ∀ k, fv.ownBlock = some k → wr.heap.size + 1 ≤ k := fun k hk => (own_block L.own hk).1
  have hE3 : Ext wr w3 := ((L.ext.drew).alloc ob).grown hgrow (fun k hk => by have := hkb k hk; omega)
  have hgg : gg ≠ wr.heap.size := by
    rcases hat with h | h
    · have := hkb gg h; omega
    · omega
  refine ⟨hE3.setCell (by simp) _, ?_, ?_, fun a s' x' ha hs' hx' => ?_⟩
  · have h3 : Blk w3 wr.heap.size 103 #[.int .u8 4, .int .i64 k, .string ⟨#[]⟩, .string ⟨#[]⟩, .string ⟨#[]⟩, fv] :=
      (hgrow.block _ (by simp; omega) (fun e => by have := hkb _ e.symm; omega)).trans (L.blk.drew.alloc ob)
    exact h3.set_ 5 _
  · obtain ⟨h1, h2⟩ := hown
    refine ⟨h1, ?_⟩
    rcases h2 with ⟨h, _⟩ | ⟨g', cap', cur, hv, hb, hg, q⟩
    · cases h
    · exact .inr ⟨g', cap', cur, hv, hb, (Below.heap_setCell w3 ⟨wr.heap.size, 5, none⟩ _ g' (by simp; omega)).trans hg, q⟩
  · by_cases haj : a = j
    · subst haj
      rw [hs] at hs'
      rw [hx] at hx'
      injection hs' with hs'
      injection hx' with hx'
      subst hs'
      subst hx'
      constructor
      · rw [List.getElem?_append_right (by omega)]; simp [hlen]
      · rw [List.getElem?_append_right (by omega)]; simp [hlen, show a * 2 + 1 - a * 2 = 1 by omega]
    · obtain ⟨h1, h2⟩ := L.cells a s' x' (by omega) hs' hx'
      constructor
      · rw [List.getElem?_append_left (by omega)]; exact h1
      · rw [List.getElem?_append_left (by omega)]; exact h2

set_option maxRecDepth 100000 in
set_option maxHeartbeats 4000000 in
theorem info_any : ∀ (n : Nat), n ≤ 8 → ∀ (X : Nat → Prop) (m : Nat) (v : Value) (T : Ty) (w : World), (∀ b, X b → b < w.heap.size) → TyAt (fun _ => False) m w v T → Good n T →
    Calls Tryz.prog 25 #[v] w (InfoPost X n T w) := by
  intro n hn8
  induction n with
  | zero => intro X m v T w hX hT hG; exact hG.elim
  | succ n ih =>
    intro X m v T w hX hT hG
    cases m with
    | zero => exact hT.elim
    | succ m =>
      obtain ⟨A, c, A', c', cs, rfl, h1, h2, h3, h4, hnb, h5, h6, h7, h8⟩ := hT
      obtain ⟨hgk, hsh⟩ := hG
      by_cases hnat : 1 ≤ T.kind ∧ T.kind ≤ 21 ∧ T.kind ≠ 10 ∧ T.kids = [] ∧ T.names = []
      · obtain ⟨g1, g2, g3, g4, g5⟩ := hnat
        have := info_native T.kind g1 g2 g3 A c (.slice A' T.names.length c') w
        rw [g4]
        exact this.mono fun e w' ⟨he, hx⟩ => ⟨_, _, he, .inl ⟨g1, g2, g3, g4, rfl⟩, hx⟩
      · unfold maxLen at h2 h4
        have hk10 := hsh.few
        obtain ⟨i0, hi0, hz0, hz1, hz2⟩ := info_parts info60
        have H5 := Lib.hid h5
        have H6 := Lib.hid h6
        have H7 := Lib.hid h7
        have H8 := Lib.hid h8
        have Hgk := Lib.hid hgk
        have Hsh := Lib.hid hsh
        have Hnat := Lib.hid hnat
        have HX := Lib.hid hX
        have IH := Lib.hid ih
        clear h5 h6 h7 h8 hnb ih hgk hsh hnat hX
        go_enter Tryz.func25, Tryz.ntmps25
        go_wp2_with fail
        refine (newNative _ _).mono ?_
        rintro e w1 ⟨rfl, hx1⟩
        have hb1 := (Blk.new w 25 #[.int .i64 T.kind, .slice A T.kids.length c, .slice A' T.names.length c']).ext hx1
        have hlt1 := hb1.lt
        obtain ⟨c0, c1, c2⟩ := hb1.c3
        have Hb1 := Lib.hid hb1
        have Hx1 := Lib.hid ((((Ext.refl w).alloc _).trans hx1))
        clear hb1 hx1
        go_wp2_with fail
        generalize hW0 : World.alloc _ _ = W0
        have hw0 : Blk W0 w.heap.size 25 #[.int .i64 T.kind, .slice A T.kids.length c, .slice A' T.names.length c'] ∧ Blk W0 w1.heap.size 94 #[.int .u8 4, .int .i64 T.kind, .string ⟨#[]⟩] ∧ Ext w W0 := by
          rw [← hW0]
          exact ⟨Hb1.out.alloc _, Blk.new w1 94 _, Hx1.out.alloc _⟩
        obtain ⟨hv0, hn0, hE0⟩ := hw0
        have Hv0 := Lib.hid hv0
        have Hn0 := Lib.hid hn0
        have HE0 := Lib.hid hE0
        clear hW0 hv0 hn0 hE0 c0 c1 c2
        go_loopw [5, 19] (fun u v wr => ∃ (i : Nat) (is : List Value) (kv : Value), v = .int .i64 i ∧ kv = u ∧ ILoop X n T W0 wr i kv is) (fun _ v _ => T.kids.length - (intOf v).toNat)
        case atStart => exact ⟨0, [], _, rfl, rfl, Nat.zero_le _, Ext.refl _, World.ownsRow_nil _ _ _ _, fun j t h => by omega⟩
        case round =>
          obtain ⟨i, is, kv, rfl, rfl, hL⟩ := hrel
          have hle := hL.le
          obtain ⟨b0, b1, b2⟩ := (Hv0.out.ext hL.ext).c3
          obtain ⟨n0, n1, n2⟩ := (Hn0.out.ext hL.ext).c3
          have HL := Lib.hid hL
          clear hL
          by_cases hlti : (i : Int) < T.kids.length
          · have hi' : i < T.kids.length := by omega
            obtain ⟨ka, kb, kd, e0, e1, e2, hkid⟩ := H8.out i _ (List.getElem?_eq_getElem hi')
            have hkt : T.kids[i]? = some T.kids[i] := List.getElem?_eq_getElem hi'
            have hkg := Hgk.out _ (List.getElem_mem hi')
            generalize T.kids[i] = kt at hkid hkt hkg
            obtain ⟨b, o, hA, hb, hbR, hcell⟩ := H7.out (by rintro rfl; simp at e0)
            subst hA
            have hx := HE0.out.trans HL.out.ext
            have j0 : wr.cell? ⟨b, o + i * 3, none⟩ = some ka := hx.cellS (hcell _ _ e0)
            have j1 : wr.cell? ⟨b, o + i * 3 + 1, none⟩ = some kb := hx.cellS (by rw [Nat.add_assoc]; exact hcell _ _ e1)
            have j2 : wr.cell? ⟨b, o + i * 3 + 2, none⟩ = some kd := hx.cellS (by rw [Nat.add_assoc]; exact hcell _ _ e2)
            obtain ⟨xA, xc, yA, yc, rfl, rfl, rfl⟩ := hkid.form3
            have hcall := IH.out (by omega) (XI X kv) m _ kt (wr.alloc (.cells #[.int .i64 kt.kind, .slice xA kt.kids.length xc, .slice yA kt.names.length yc] 25)) (fun b hb => by
              refine Nat.lt_of_lt_of_le ?_ ((Ext.refl wr).alloc _).size
              rcases hb with hb | hb
              · have := HX.out b hb
                have := hx.size
                omega
              · have := (own_block HL.out.own hb).2
                omega) (TyAt.onx (Onx.of_ext (hx.alloc _) _) _ _ _ hkid) hkg
            have Hcall := Lib.hid hcall
            have Hkt := Lib.hid hkt
            clear hkid hcall hkt e0 e1 e2 hcell hx hkg
            go_wp2_with fail
            refine Hcall.out.mono ?_
            rintro e w2 ⟨te, ve, rfl, hI, he2⟩
            have hown := (ownsRow_ext HL.out.own (((Ext.refl wr).alloc (.cells #[.int .i64 kt.kind, .slice xA kt.kids.length xc, .slice yA kt.names.length yc] 25)).trans he2))
            have hsz : W0.heap.size ≤ w2.heap.size := by have := HL.out.ext.size; have := he2.size; simp at this; omega
            have HI := Lib.hid hI
            have He2 := Lib.hid he2
            have Hown := Lib.hid hown
            clear hI he2 hown
            go_wp2_with (at_builtin; refine wpList_append_lies _ rfl _ _ _ rfl W0.heap.size 60 i0 _ 1 16 Tryz.underlying96 hi0 hz0 hz1 hz2 rfl (by omega) kv i is rfl (Hown.out.alloc _) ⟨w2.heap.size, 0, none⟩ 1 1 [.iface te ve] rfl rfl (World.news_of_block (heap_alloc_new w2 _)) (by simp [Value.oneCell']) (by omega) (by unfold maxLen; omega) (by omega) (by simp; omega) (w2.heap.size + 1) (by simp) ?_; intro gg cap1 w3 hown3 hgrow hat hltg)
            have hstep := iloop_step HL.out Hkt.out ((Ext.refl wr).alloc _) He2.out HI.out hown3 hgrow hat
            have Hstep := Lib.hid hstep
            clear hstep hown3 hgrow hat
            go_wp2_with fail
            go_roundw
            case rel => exact ⟨i + 1, _, _, by go_num, rfl, Hstep.out⟩
            case measure => simp [intOf]; omega
          · obtain rfl : i = T.kids.length := by omega
            have hEw : Ext w wr := HE0.out.trans HL.out.ext
            have HEw := Lib.hid hEw
            clear hEw
            have hw94 : wr.heap.size = wr.heap.size := rfl
            rcases Hsh.out with ⟨hk, hl, hn⟩ | ⟨hk, hl, hn⟩ | ⟨hk, hl, hl', hn⟩ | ⟨hk, hl, hl', hnl, hnd⟩ | hn
            · obtain ⟨g, cap, hkv, hg0, hg1⟩ := HL.out.own.form (by omega)
              obtain ⟨t, ht⟩ := List.length_eq_one_iff.1 hl
              obtain ⟨te, ve, hx, hI⟩ := HL.out.kids 0 t (by omega) (by rw [ht]; rfl)
              have hown := HL.out.own
              rw [hkv] at hown
              have q0 : wr.cell? ⟨g, 0, none⟩ = some (.iface te ve) := (hown.cellAt 0 (by omega)).trans hx
              have hI' := InfoAt.weak (X' := X) (fun b hb => .inl (.inl hb)) _ _ _ hI
              have HI := Lib.hid hI'
              have Ht := Lib.hid ht
              have Hk := Lib.hid hk
              have Hl := Lib.hid hl
              have u1 : ((T.kids.length : Int) != 1) = false := by simp [hl]
              have u2 : (0 : Int) < T.kids.length := by omega
              clear hI hI' hown hx ht hl hn
              subst hkv
              have fin : ∀ (a : Nat), InfoPost X (n + 1) T w (.returned (.tuple #[.iface 98 (.agg #[.int .u8 4, .int .i64 T.kind, .string ⟨#[]⟩, .nilIface, .iface te ve]), .bool true])) (wr.drewN a) := fun a =>
                ⟨_, _, rfl, .inr (.inl ⟨Hk.out, t, te, ve, Ht.out, rfl, InfoAt.onx (Onx.of_ext ((Ext.refl wr).drewN a) X) _ _ _ HI.out⟩), HEw.out.drewN a⟩
              have Fin := Lib.hid fin
              clear fin
              rcases hk with hk | hk
              · have t1 : (T.kind == 32) = true := by simp [hk]
                clear hk
                go_wp2_with fail
                go_quiet (fail)
                go_wp2_with fail
                go_ret2
                exact Fin.out _
              · have t0 : (T.kind == 32) = false := by simp [hk]
                have t1 : (T.kind == 34) = true := by simp [hk]
                clear hk
                go_wp2_with fail
                go_quiet (fail)
                go_wp2_with fail
                go_ret2
                exact Fin.out _
            · obtain ⟨g, cap, hkv, hg0, hg1⟩ := HL.out.own.form (by omega)
              obtain ⟨t, t', ht⟩ := list2 hl
              obtain ⟨te, ve, hx, hI⟩ := HL.out.kids 0 t (by omega) (by rw [ht]; rfl)
              obtain ⟨te', ve', hx', hJ⟩ := HL.out.kids 1 t' (by omega) (by rw [ht]; rfl)
              have hown := HL.out.own
              rw [hkv] at hown
              have q0 : wr.cell? ⟨g, 0, none⟩ = some (.iface te ve) := (hown.cellAt 0 (by omega)).trans hx
              have q1 : wr.cell? ⟨g, 1, none⟩ = some (.iface te' ve') := (hown.cellAt 1 (by omega)).trans hx'
              have hI' := InfoAt.weak (X' := X) (fun b hb => .inl (.inl hb)) _ _ _ hI
              have hJ' := InfoAt.weak (X' := X) (fun b hb => .inl (.inl hb)) _ _ _ hJ
              have HI := Lib.hid hI'
              have HJ := Lib.hid hJ'
              have Ht := Lib.hid ht
              have Hk := Lib.hid hk
              have u1 : ((T.kids.length : Int) != 2) = false := by simp [hl]
              have u2 : (0 : Int) < T.kids.length := by omega
              have u3 : (1 : Int) < T.kids.length := by omega
              clear hI hI' hJ hJ' hown hx hx' ht hl hn
              subst hkv
              have fin : ∀ (a : Nat), InfoPost X (n + 1) T w (.returned (.tuple #[.iface 98 (.agg #[.int .u8 4, .int .i64 T.kind, .string ⟨#[]⟩, .iface te ve, .iface te' ve']), .bool true])) (wr.drewN a) := fun a =>
                ⟨_, _, rfl, .inr (.inr (.inl ⟨Hk.out, t, t', te, ve, te', ve', Ht.out, by rw [Hk.out], InfoAt.onx (Onx.of_ext ((Ext.refl wr).drewN a) X) _ _ _ HI.out, InfoAt.onx (Onx.of_ext ((Ext.refl wr).drewN a) X) _ _ _ HJ.out⟩)), HEw.out.drewN a⟩
              have Fin := Lib.hid fin
              clear fin
              have t0 : (T.kind == 32) = false := by simp [hk]
              have t1 : (T.kind == 34) = false := by simp [hk]
              have t2 : (T.kind == 33) = true := by simp [hk]
              clear hk
              go_wp2_with fail
              go_quiet (fail)
              go_wp2_with fail
              go_ret2
              exact Fin.out _
            · obtain ⟨g, cap, hkv, hg0, hg1⟩ := HL.out.own.form (by omega)
              have hown := HL.out.own
              rw [hkv] at hown
              have hseg : SegR X wr (some ⟨g, 0, none⟩) is := fun _ => ⟨g, 0, rfl, hg1, fun hx => by have := HX.out g hx; have := HE0.out.size; omega, fun j u hu => by
                have hj := (List.getElem?_eq_some_iff.1 hu).1
                rw [Nat.zero_add, hown.cellAt j (by have := hown.1; omega)]
                exact hu⟩
              have hcap : T.kids.length ≤ cap := by
                rcases hown.2 with ⟨h, _⟩ | ⟨_, _, _, h, _, _, h2, _⟩
                · cases h
                · injection h with _ _ h; omega
              have hkk : ∀ (i : Nat) (t : Ty), T.kids[i]? = some t → ∃ te ve, is[i]? = some (.iface te ve) ∧ InfoAt X n wr (.iface te ve) t := fun i t ht => by
                obtain ⟨te, ve, hx, hI⟩ := HL.out.kids i t (List.getElem?_eq_some_iff.1 ht).1 ht
                exact ⟨te, ve, hx, InfoAt.weak (fun b hb => .inl (.inl hb)) _ _ _ hI⟩
              have hil : is.length = T.kids.length := by have := hown.1; omega
              subst hkv
              have fin : InfoPost X (n + 1) T w (.returned (.tuple #[.iface 100 (.agg #[.int .u8 4, .int .i64 T.kind, .string ⟨#[]⟩, .slice (some ⟨g, 0, none⟩) T.kids.length cap]), .bool true])) wr :=
                ⟨_, _, rfl, .inr (.inr (.inr (.inl ⟨hk, _, cap, is, by rw [hk], hcap, hil, hseg, hkk⟩))), HEw.out⟩
              have Fin := Lib.hid fin
              have t0 : (T.kind == 32) = false := by simp [hk]
              have t1 : (T.kind == 34) = false := by simp [hk]
              have t2 : (T.kind == 33) = false := by simp [hk]
              have t3 : (T.kind == 49) = true := by simp [hk]
              clear hk fin hown hseg hcap hkk hil hl hl' hn
              go_wp2_with fail
              go_ret2
              exact Fin.out
            · obtain ⟨wp, hwp⟩ : ∃ x, x = wr := ⟨wr, rfl⟩
              subst hwp
              obtain ⟨u0, hu0, hy0, hy1, hy2⟩ := info_parts info105
              obtain ⟨g, cap, hkv, hg0, hg1⟩ := HL.out.own.form (by omega)
              have hown := HL.out.own
              rw [hkv] at hown
              have hil : is.length = T.kids.length := by have := hown.1; omega
              subst hkv
              have t0 : (T.kind == 32) = false := by simp [hk]
              have t1 : (T.kind == 34) = false := by simp [hk]
              have t2 : (T.kind == 33) = false := by simp [hk]
              have t3 : (T.kind == 49) = false := by simp [hk]
              have t4 : (T.kind == 48) = true := by simp [hk]
              have Hk := Lib.hid hk
              have Hown := Lib.hid hown
              have Hil := Lib.hid hil
              have hnl' : (T.names.length : Int) = T.kids.length := by omega
              have Hnl := Lib.hid hnl
              have Hnl' := Lib.hid hnl'
              clear hk hown hil hnl hnl' hnd
              go_wp2_with fail
              generalize hWu : World.alloc _ _ = Wu
              have hu0' : ULoop T.kind T.names is wp Wu 0 (.slice none 0 0) [] := by
                rw [← hWu]
                exact ⟨(Ext.refl wp).alloc _, Blk.new wp 103 _, World.ownsRow_nil _ _ _ _, fun a s x h => by omega⟩
              have HU0 := Lib.hid hu0'
              clear hWu hu0'
              go_loopw [75] (fun v wr => ∃ (j : Nat) (fv : Value) (fcs : List Value), j ≤ T.kids.length ∧ v = .int .i64 j ∧ ULoop T.kind T.names is wp wr j fv fcs) (fun v _ => T.kids.length - (intOf v).toNat)
              case atStart => exact ⟨0, _, [], Nat.zero_le _, rfl, HU0.out⟩
              case round =>
                obtain ⟨j, fv, fcs, hj, rfl, hU⟩ := hrel
                have HU := Lib.hid hU
                obtain ⟨a0, a1, a2, a3, a4, a5⟩ : wr.cell? ⟨wp.heap.size, 0, none⟩ = some (.int .u8 4) ∧ wr.cell? ⟨wp.heap.size, 1, none⟩ = some (.int .i64 T.kind) ∧ wr.cell? ⟨wp.heap.size, 2, none⟩ = some (.string ⟨#[]⟩) ∧ wr.cell? ⟨wp.heap.size, 3, none⟩ = some (.string ⟨#[]⟩) ∧ wr.cell? ⟨wp.heap.size, 4, none⟩ = some (.string ⟨#[]⟩) ∧ wr.cell? ⟨wp.heap.size, 5, none⟩ = some fv :=
                  ⟨hU.blk.cell 0, hU.blk.cell 1, hU.blk.cell 2, hU.blk.cell 3, hU.blk.cell 4, hU.blk.cell 5⟩
                have r2 : wr.cell? ⟨w.heap.size, 2, none⟩ = some (.slice A' T.names.length c') := hU.ext.cellS b2
                have hlt5 := hU.blk.lt
                clear hU
                by_cases hjl : (j : Int) < T.kids.length
                · have hj' : j < T.kids.length := by omega
                  have hjn : j < T.names.length := by have := Hnl.out; omega
                  obtain ⟨te, ve, hxj, hI⟩ := HL.out.kids j _ hj' (List.getElem?_eq_getElem hj')
                  have q0 : wr.cell? ⟨g, j, none⟩ = some (.iface te ve) := HU.out.ext.cellS ((Hown.out.cellAt j (by omega)).trans hxj)
                  obtain ⟨b, o, hA, hb, hbR, hcell⟩ := H5.out (by intro e; simp at e; rw [e] at hjn; simp at hjn)
                  subst hA
                  have hs : T.names[j]? = some T.names[j] := List.getElem?_eq_getElem hjn
                  have s0 : wr.cell? ⟨b, o + j, none⟩ = some (.string T.names[j]) := (HEw.out.trans HU.out.ext).cellS (hcell j _ (by simp [hs]))
                  generalize T.names[j] = s at hs s0
                  have Hs := Lib.hid hs
                  have Hxj := Lib.hid hxj
                  have hj1 : (j : Int) < T.names.length := by omega
                  have hj0 : (0 : Int) ≤ j := by omega
                  have hj10 : j ≤ 10 := by omega
                  clear hs hxj hI hcell
                  go_upto_region 30 with fail
                  refine wp_region_K (fun w' => w'.cell? ⟨wp.heap.size, 5, none⟩ = some fv ∧ w'.cell? ⟨w.heap.size, 2, none⟩ = some (.slice (some ⟨b, o, none⟩) T.names.length c') ∧ w'.cell? ⟨b, o + j, none⟩ = some (.string s)) (fun j => j == 1 || j == 3 || j == 6 || j == 9) 13 [false, false, false, false, false, false, false, false, false, false, false, false, false] (by kernel_rfl) rfl rfl ?_
                  refine wpAnyK_free 0 (v := ?v0) rfl (by kernel_rfl) (fun _ _ _ h => h) (Or.inl ⟨by rfl, ?y0⟩) ?_
                  case y0 => intro w; go_simp; with_reducible rfl
                  simp only [Act.put, List.setIfInBounds_toArray, List.set_cons_zero, List.set_cons_succ]
                  refine wpAnyK_free 2 (v := ?v2) rfl (by kernel_rfl) (fun _ _ _ h => h) (Or.inl ⟨by rfl, ?y2⟩) ?_
                  case y2 => intro w; go_simp; with_reducible rfl
                  simp only [Act.put, List.setIfInBounds_toArray, List.set_cons_zero, List.set_cons_succ]
                  refine wpAnyK_free 4 (v := ?v4) rfl (by kernel_rfl) (fun _ _ _ h => h) (Or.inl ⟨by rfl, ?y4⟩) ?_
                  case y4 => intro w; go_simp; with_reducible rfl
                  simp only [Act.put, List.setIfInBounds_toArray, List.set_cons_zero, List.set_cons_succ]
                  refine wpAnyK_free 7 (v := ?v7) rfl (by kernel_rfl) (fun _ _ _ h => h) (Or.inl ⟨by rfl, ?y7⟩) ?_
                  case y7 => intro w; go_simp; with_reducible rfl
                  simp only [Act.put, List.setIfInBounds_toArray, List.set_cons_zero, List.set_cons_succ]
                  refine wpAnyK_take 3 (fun j => j == 5 || j == 6 || j == 8 || j == 9 || j == 10 || j == 11 || j == 12) (v := ?v3) rfl (by kernel_rfl) (fun _ _ _ h => h) ⟨a5, r2, s0⟩ (Or.inl ⟨by rfl, ?y3⟩) ?_
                  case y3 => rintro w ⟨hs0, hs1, hs2⟩; go_simp; with_reducible rfl
                  simp only [Act.put, List.setIfInBounds_toArray, List.set_cons_zero, List.set_cons_succ]
                  refine wpAnyK_free 5 (v := ?v5) rfl (by kernel_rfl) (fun _ _ _ h => h) (Or.inl ⟨by rfl, ?y5⟩) ?_
                  case y5 => intro w; go_simp; with_reducible rfl
                  simp only [Act.put, List.setIfInBounds_toArray, List.set_cons_zero, List.set_cons_succ]
                  refine wpAnyK_take 6 (fun j => j == 8 || j == 9 || j == 10 || j == 11 || j == 12) (v := ?v6) rfl (by kernel_rfl) (fun _ _ _ h => h) ⟨a5, r2, s0⟩ (Or.inl ⟨by rfl, ?y6⟩) ?_
                  case y6 => rintro w ⟨hs0, hs1, hs2⟩; go_simp; with_reducible rfl
                  simp only [Act.put, List.setIfInBounds_toArray, List.set_cons_zero, List.set_cons_succ]
                  refine wpAnyK_free 8 (v := ?v8) rfl (by kernel_rfl) (fun _ _ _ h => h) (Or.inl ⟨by rfl, ?y8⟩) ?_
                  case y8 => intro w; go_simp; with_reducible rfl
                  simp only [Act.put, List.setIfInBounds_toArray, List.set_cons_zero, List.set_cons_succ]
                  refine wpAnyK_take 1 (fun j => j == 10 || j == 11 || j == 12) (v := ?v1) rfl (by kernel_rfl) (fun _ _ _ h => h) ⟨a5, r2, s0⟩ (Or.inl ⟨by rfl, ?y1⟩) ?_
                  case y1 => rintro w ⟨hs0, hs1, hs2⟩; go_simp; with_reducible rfl
                  simp only [Act.put, List.setIfInBounds_toArray, List.set_cons_zero, List.set_cons_succ]
                  refine wpAnyK_one 9 (by kernel_rfl) rfl rfl (fun K' hK => ?_)
                  go_simp
                  refine hK.out _ _ (fun _ => ?_) ?_
                  · exact ⟨((Ext.refl wr).drew.alloc _).cellS a5, ((Ext.refl wr).drew.alloc _).cellS r2, ((Ext.refl wr).drew.alloc _).cellS s0⟩
                  clear hK K'
                  simp only [Act.put, List.setIfInBounds_toArray, List.set_cons_zero, List.set_cons_succ]
                  refine wpAnyK_one 10 (by kernel_rfl) rfl rfl (fun K' hK => ?_)
                  refine wp_append_lies _ _ _ _ (by rfl) (wp.heap.size + 1) 105 u0 _ 2 32 Tryz.underlying101 hu0 hy0 hy1 hy2 rfl (by omega) fv j fcs (by rfl) (HU.out.own.drew.alloc _) ⟨wr.heap.size, 0, none⟩ 1 1 [.string s, .iface te ve] (by rfl) (by rfl)
                    (World.news_of_block (heap_alloc_new wr.drew _)) (by simp [Value.oneCell']) (by omega) (by unfold maxLen; omega) (by omega) (by simp; omega) (wr.heap.size + 1) (by simp) ?_
                  intro gg cap1 w3 hown3 hgrow hat hltg
                  have hfr := HU.out.blk.drew.alloc (.cells #[.string s, .iface te ve] 105)
                  have hb3 : Blk w3 wp.heap.size 103 #[.int .u8 4, .int .i64 T.kind, .string ⟨#[]⟩, .string ⟨#[]⟩, .string ⟨#[]⟩, fv] := (hgrow.block _ hfr.lt (fun e => by have := (own_block HU.out.own e.symm).1; omega)).trans hfr
                  have k0 : w3.cell? ⟨wp.heap.size, 5, none⟩ = some fv := hb3.cell 5
                  have f0 : w3.frozen? ⟨wp.heap.size, 5, none⟩ = false := hb3.frozen 5
                  have Hstep := Lib.hid (uloop_step HU.out Hs.out Hxj.out hown3 hgrow hat)
                  clear hown3 hgrow hat hfr hb3
                  refine hK.out _ _ (fun h => absurd h (by decide)) ?_
                  clear hK K'
                  simp only [Act.put, List.setIfInBounds_toArray, List.set_cons_zero, List.set_cons_succ]
                  refine wpAnyK_free 11 (v := ?v11) rfl (by kernel_rfl) (fun _ _ _ h => h) (Or.inl ⟨by rfl, ?y11⟩) ?_
                  case y11 => intro w; go_simp; with_reducible rfl
                  simp only [Act.put, List.setIfInBounds_toArray, List.set_cons_zero, List.set_cons_succ]
                  refine wpAnyK_one 12 (by kernel_rfl) rfl rfl (fun K' hK => ?_)
                  go_simp
                  refine hK.out _ _ (fun h => absurd h (by decide)) ?_
                  clear hK K'
                  simp only [Act.put, List.setIfInBounds_toArray, List.set_cons_zero, List.set_cons_succ]
                  refine wpAnyK_done (by kernel_rfl) ?_ _
                  go_wp2_with fail
                  exact ⟨⟨j + 1, _, _, by omega, rfl, Hstep.out⟩, by simp [intOf]; omega⟩
                · obtain rfl : j = T.kids.length := by omega
                  obtain ⟨g2, cap2, hfv, hg2, hg3⟩ := HU.out.own.form (by omega)
                  have hown2 := HU.out.own
                  rw [hfv] at hown2
                  have hseg : SegR X wr (some ⟨g2, 0, none⟩) fcs := fun _ => ⟨g2, 0, rfl, hg3, fun hx => by have := HX.out g2 hx; have := HEw.out.size; omega, fun j u hu => by
                    have hj := (List.getElem?_eq_some_iff.1 hu).1
                    rw [Nat.zero_add, hown2.cellAt j (by have := hown2.1; omega)]
                    exact hu⟩
                  have hcap : T.kids.length ≤ cap2 := by
                    rcases hown2.2 with ⟨h, _⟩ | ⟨_, _, _, h, _, _, h2, _⟩
                    · cases h
                    · injection h with _ _ h; omega
                  have hkk : ∀ (i : Nat) (t : Ty), T.kids[i]? = some t → ∃ s te ve, T.names[i]? = some s ∧ fcs[i * 2]? = some (.string s) ∧ fcs[i * 2 + 1]? = some (.iface te ve) ∧ InfoAt X n wr (.iface te ve) t := fun i t ht => by
                    have hil := (List.getElem?_eq_some_iff.1 ht).1
                    have hin : i < T.names.length := by have := Hnl.out; omega
                    obtain ⟨te, ve, hx, hI⟩ := HL.out.kids i t hil ht
                    obtain ⟨h1, h2⟩ := HU.out.cells i T.names[i] _ hil (List.getElem?_eq_getElem hin) hx
                    exact ⟨_, te, ve, List.getElem?_eq_getElem hin, h1, h2, InfoAt.onx (Onx.of_ext HU.out.ext X) _ _ _ (InfoAt.weak (fun b hb => .inl (.inl hb)) _ _ _ hI)⟩
                  have hfl : fcs.length = T.kids.length * 2 := hown2.1
                  subst hfv
                  have fin : InfoPost X (n + 1) T w (.returned (.tuple #[.iface 103 (.agg #[.int .u8 4, .int .i64 T.kind, .string ⟨#[]⟩, .string ⟨#[]⟩, .string ⟨#[]⟩, .slice (some ⟨g2, 0, none⟩) T.kids.length cap2]), .bool true])) wr :=
                    ⟨_, _, rfl, .inr (.inr (.inr (.inr ⟨Hk.out, _, cap2, fcs, by rw [Hk.out], hcap, hfl, hseg, hkk⟩))), HEw.out.trans HU.out.ext⟩
                  have Fin := Lib.hid fin
                  clear hown2 hseg hcap hkk hfl fin
                  go_wp2_with fail
                  go_ret2
                  exact Fin.out
            · exact (Hnat.out ⟨hn.1, hn.2.1, hn.2.2⟩).elim
end Go.Proofs.YtammjbmfiakbnaaGreatDoor
