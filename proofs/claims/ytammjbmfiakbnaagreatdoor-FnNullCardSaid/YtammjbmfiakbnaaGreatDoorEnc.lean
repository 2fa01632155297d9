/-
  The package's small encoders: whole numbers and truth values, the highest byte first. Conditions: each number fits its kind.
-/
import Derived.Test.YtammjbmfiakbnaaGreatDoorFacts
import Derived.Test.YtammjbmfiakbnaaGreatDoorMem
import Derived.Outline
namespace Go.Proofs.YtammjbmfiakbnaaGreatDoor
open Go.RowKit

/-- The lowest byte of a number. -/
def bt (m : Int) : UInt8 := UInt8.ofNat (m % 256).toNat
theorem bt_nat (m : Int) : ((bt m).toNat : Int) = m % 256 := by
  unfold bt
  rw [UInt8.toNat_ofNat']
  omega
theorem byteV_bt (m : Int) : byteV (bt m) = .int .u8 (m % 256) := by unfold byteV; rw [bt_nat]

/-- A slice that is not nil and reads as l; its array is no variable that holds a slice or a truth value. -/
def Out (l : List UInt8) (r : Value) (w : World) : Prop :=
  ∃ b o c cs t fr, r = .slice (some ⟨b, o, none⟩) l.length c ∧ l.length ≤ c ∧ w.heap[b]? = some (.cells cs t fr) ∧ t ≠ 27 ∧ t ≠ 4 ∧ ∀ j u, (l.map byteV)[j]? = some u → cs[o + j]? = some u
/-- Blocks that are no variables for a slice or a truth value stay as they are. -/
def Keep (w w' : World) : Prop :=
  w.heap.size ≤ w'.heap.size ∧ ∀ (k : Nat) (cs : Array Value) (t : TypeId) (fr : Nat × Nat), w.heap[k]? = some (.cells cs t fr) → t ≠ 27 → t ≠ 4 → w'.heap[k]? = w.heap[k]?
theorem Ext.keep {w w' : World} (h : Ext w w') : Keep w w' := ⟨h.size, fun k _ _ _ hk _ _ => h.block k (by
  rcases Nat.lt_or_ge k w.heap.size with hl | hg
  · exact hl
  · rw [Array.getElem?_eq_none hg] at hk; cases hk)⟩
theorem Keep.trans {a b c : World} (h : Keep a b) (k : Keep b c) : Keep a c :=
  ⟨Nat.le_trans h.1 k.1, fun i cs t fr hi h1 h2 => (k.2 i cs t fr ((h.2 i cs t fr hi h1 h2).trans hi) h1 h2).trans (h.2 i cs t fr hi h1 h2)⟩
theorem Keep.setCell {w w' : World} (h : Keep w w') {b : Nat} {t : TypeId} {cs : Array Value} (hb : Blk w' b t cs) (ht : t = 27 ∨ t = 4) (u : Value) : Keep w (w'.setCell ⟨b, 0, none⟩ u) := by
  refine ⟨by simpa [World.setCell] using h.1, fun k cs' t' fr hk h1 h2 => ?_⟩
  have e := h.2 k cs' t' fr hk h1 h2
  have hne : k ≠ b := by
    rintro rfl
    unfold Blk at hb
    rw [e, hk] at hb
    injection hb with hb
    injection hb with _ ht'
    subst ht'
    rcases ht with rfl | rfl
    · exact h1 rfl
    · exact h2 rfl
  rw [Below.heap_setCell w' ⟨b, 0, none⟩ u k hne]
  exact e
theorem Out.form {l : List UInt8} {r : Value} {w : World} (h : Out l r w) : ∃ b o c, r = .slice (some ⟨b, o, none⟩) l.length c ∧ l.length ≤ c ∧ b < w.heap.size ∧ ∀ j u, (l.map byteV)[j]? = some u → w.cell? ⟨b, o + j, none⟩ = some u := by
  obtain ⟨b, o, c, cs, t, fr, rfl, hc, hb, h1, h2, hl⟩ := h
  refine ⟨b, o, c, rfl, hc, ?_, fun j u hu => ?_⟩
  · rcases Nat.lt_or_ge b w.heap.size with hl | hg
    · exact hl
    · rw [Array.getElem?_eq_none hg] at hb; cases hb
  · have := hl j u hu
    simpa [World.cell?, hb] using this
theorem Out.bytes {l : List UInt8} {r : Value} {w : World} (h : Out l r w) : Bytes w r l := by
  obtain ⟨b, o, c, rfl, hc, hb, hl⟩ := h.form
  exact ⟨_, c, rfl, hc, fun _ => ⟨b, o, rfl, hb, hl⟩⟩
theorem Out.keep {l : List UInt8} {r : Value} {w w1 : World} (h : Out l r w) (he : Keep w w1) : Out l r w1 := by
  obtain ⟨b, o, c, cs, t, fr, rfl, hc, hb, h1, h2, hl⟩ := h
  exact ⟨b, o, c, cs, t, fr, rfl, hc, (he.2 b cs t fr hb h1 h2).trans hb, h1, h2, hl⟩
theorem Out.ext {l : List UInt8} {r : Value} {w w1 : World} (h : Out l r w) (he : Ext w w1) : Out l r w1 := h.keep he.keep
theorem Out.of_blk {w : World} {g : Nat} {t : TypeId} {cs : Array Value} (h : Blk w g t cs) {l : List UInt8} {n c : Nat} (h1 : t ≠ 27) (h2 : t ≠ 4) (hn : n = l.length) (hc : l.length ≤ c) (hl : cs.toList.take l.length = l.map byteV) :
    Out l (.slice (some ⟨g, 0, none⟩) n c) w := by
  subst hn
  refine ⟨g, 0, c, cs, t, (0, 0), rfl, hc, h, h1, h2, fun j u hu => ?_⟩
  rw [Nat.zero_add]
  rw [← hl, List.getElem?_take] at hu
  split at hu
  · simpa using hu
  · cases hu

set_option maxRecDepth 100000 in
theorem encShort_any (x : Int) (w : World) : Calls Tryz.prog 81 #[.int .i16 x] w fun e w' => ∃ r, e = .returned r ∧ Out [bt (x / 256), bt x] r w' ∧ Ext w w' := by
  have hmk : ∀ W : World, (Instr.makeSlice 27 (.int .i64 2) (.int .i64 2)).run Tryz.prog W = .ok (.slice (some ⟨W.heap.size, 0, none⟩) 2 2) (W.alloc (.cells #[.int .u8 0, .int .u8 0] 5)) := fun _ => by kernel_rfl
  go_enter Tryz.func81, Tryz.ntmps81
  go_wp2
  go_ret
  exact ⟨_, rfl, Out.of_blk (Blk.new _ _ _) (by decide) (by decide) rfl (by simp) (by simp [byteV_bt]), (Ext.refl _).alloc _⟩

set_option maxRecDepth 100000 in
theorem encInt_any (x : Int) (w : World) : Calls Tryz.prog 82 #[.int .i32 x] w fun e w' => ∃ r, e = .returned r ∧ Out [bt (x / 16777216), bt (x / 65536), bt (x / 256), bt x] r w' ∧ Ext w w' := by
  go_enter Tryz.func82, Tryz.ntmps82
  go_wp2
  go_ret
  exact ⟨_, rfl, Out.of_blk (Blk.new _ _ _) (by decide) (by decide) rfl (by simp) (by simp [byteV_bt]), (Ext.refl _).alloc _⟩

set_option maxRecDepth 100000 in
theorem encBigInt_any (x : Int) (w : World) : Calls Tryz.prog 83 #[.int .i64 x] w fun e w' =>
    ∃ r, e = .returned r ∧ Out [bt (x / 72057594037927936), bt (x / 281474976710656), bt (x / 1099511627776), bt (x / 4294967296), bt (x / 16777216), bt (x / 65536), bt (x / 256), bt x] r w' ∧ Ext w w' := by
  go_enter Tryz.func83, Tryz.ntmps83
  go_wp2
  go_ret
  exact ⟨_, rfl, Out.of_blk (Blk.new _ _ _) (by decide) (by decide) rfl (by simp) (by simp [byteV_bt]), (Ext.refl _).alloc _⟩

theorem encBool_any (x : Bool) (w : World) : Calls Tryz.prog 79 #[.bool x] w fun e w' => ∃ r, e = .returned r ∧ Out [bt (if x then 1 else 0)] r w' ∧ Ext w w' := by
  cases x
  · go_enter Tryz.func79, Tryz.ntmps79
    go_wp2
    go_ret
    exact ⟨_, rfl, Out.of_blk (Blk.new _ _ _) (by decide) (by decide) rfl (by simp) (by simp [byteV_bt]), (Ext.refl _).alloc _⟩
  · go_enter Tryz.func79, Tryz.ntmps79
    go_wp2
    go_ret
    exact ⟨_, rfl, Out.of_blk (Blk.new _ _ _) (by decide) (by decide) rfl (by simp) (by simp [byteV_bt]), (Ext.refl _).alloc _⟩
end Go.Proofs.YtammjbmfiakbnaaGreatDoor
