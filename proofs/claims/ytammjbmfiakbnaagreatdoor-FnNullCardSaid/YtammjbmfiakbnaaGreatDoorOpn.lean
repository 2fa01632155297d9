/-
  What comes in: a type lies in memory as a type. No conditions.
-/
import Derived.Test.YtammjbmfiakbnaaGreatDoorTy
import Derived.Test.YtammjbmfiakbnaaGreatDoorProg
import Derived.ProofKit
import Derived.OpenShut
namespace Go.Proofs.YtammjbmfiakbnaaGreatDoor
open Go.ChangeShapes Go.WideShapes Go.ChangeAt Go.RowKit

theorem TyAt.up {X : Nat → Prop} {w : World} : ∀ (n : Nat) (v : Value) (T : Ty), TyAt X n w v T → TyAt X (n + 1) w v T
  | 0, _, _, h => h.elim
  | n + 1, v, T, h => by
    obtain ⟨A, c, A', c', cs, hv, h1, h2, h3, h4, hs, h5, h6, h7, h8⟩ := h
    refine ⟨A, c, A', c', cs, hv, h1, h2, h3, h4, hs, h5, h6, h7, fun i t ht => ?_⟩
    obtain ⟨a, b, d, ha, hb, hd, hk⟩ := h8 i t ht
    exact ⟨a, b, d, ha, hb, hd, TyAt.up n _ t hk⟩

theorem list_choose {α : Type} {P : Nat → α → Prop} : ∀ (n : Nat), (∀ i, i < n → ∃ a, P i a) → ∃ l : List α, l.length = n ∧ ∀ i a, l[i]? = some a → P i a
  | 0, _ => ⟨[], rfl, fun i a h => by simp at h⟩
  | n + 1, h => by
    obtain ⟨l, hl, hP⟩ := list_choose n fun i hi => h i (by omega)
    obtain ⟨a, ha⟩ := h n (by omega)
    refine ⟨l ++ [a], by simp [hl], fun i b hb => ?_⟩
    rcases Nat.lt_or_ge i n with hi | hi
    · rw [List.getElem?_append_left (by omega)] at hb
      exact hP i b hb
    · have := (List.getElem?_eq_some_iff.1 hb).1
      simp only [List.length_append, List.length_cons, List.length_nil] at this
      obtain rfl : i = n := by omega
      rw [List.getElem?_append_right (by omega), hl] at hb
      simp only [Nat.sub_self, List.getElem?_cons_zero, Option.some.injEq] at hb
      subst hb
      exact ha

theorem cell_lt' {w : World} {a : Addr} {v : Value} (h : w.cell? a = some v) : a.block < w.heap.size := World.block_lt_of_cell? (a := a) w h

theorem segR_of {W : World} {a : Addr} {xs : List Value} (h : ∀ j u, xs[j]? = some u → W.cell? (a.add j) = some u) : SegR (fun _ => False) W (some a) xs := fun hne => by
  obtain ⟨b, o, s⟩ := a
  cases xs with
  | nil => exact absurd rfl hne
  | cons u us =>
    have h0 := h 0 u rfl
    have hs : s = none := by simpa [Addr.add] using World.cell?_spot h0
    subst hs
    refine ⟨b, o, rfl, by simpa [Addr.add] using cell_lt' h0, fun h => h, fun j u' hu => ?_⟩
    have := h j u' hu
    have hadd : (⟨b, o, none⟩ : Addr).add j = ⟨b, o + j, none⟩ := by unfold Addr.add; split <;> simp_all
    rwa [hadd] at this

theorem addr_add (a : Addr) (i j : Nat) : (a.add i).add j = a.add (i + j) := by
  unfold Addr.add
  by_cases hi : i = 0 <;> by_cases hj : j = 0 <;> simp [hi, hj, Nat.add_assoc]

section
variable {H : Type} {enc : TypeId × Value → H} {W : World} {spare : Nat → Bool} {held : Bool}

/-- A row of cells, each read by itself. -/
theorem cells_row {t : TypeId} {k : Nat} {a : Addr} {len n : Nat} {elems : List (DataW H × List MemPlace)} (hk : Tryz.prog.cellsOf t = k) (hlen : elems.length = len)
    (hel : ∀ i, i < len → (W.cells? 0 (a.add (i * Tryz.prog.cellsOf t)) (Tryz.prog.cellsOf t)).bind (DataW.trod enc Tryz.prog W 0 spare held n t) = elems[i]?) :
    ∃ xs : List Value, xs.length = len * k ∧ (∀ j u, xs[j]? = some u → W.cell? (a.add j) = some u) ∧
      ∀ i, i < len → ∃ y, DataW.trod enc Tryz.prog W 0 spare held n t ((xs.drop (i * k)).take k) = some y := by
  subst hk
  have each : ∀ i, i < len → ∃ cs y, W.cells? 0 (a.add (i * Tryz.prog.cellsOf t)) (Tryz.prog.cellsOf t) = some cs ∧ DataW.trod enc Tryz.prog W 0 spare held n t cs = some y := fun i hi => by
    have h1 := hel i hi
    rw [List.getElem?_eq_getElem (by omega), Option.bind_eq_some_iff] at h1
    obtain ⟨cs, hcs, hy⟩ := h1
    exact ⟨cs, _, hcs, hy⟩
  obtain ⟨xs, hxl, hxs⟩ := list_choose (P := fun j u => W.cell? (a.add j) = some u) (len * Tryz.prog.cellsOf t) fun j hj => by
    have hk0 : 0 < Tryz.prog.cellsOf t := Nat.pos_of_ne_zero (by intro e; rw [e] at hj; omega)
    have hi : j / Tryz.prog.cellsOf t < len := (Nat.div_lt_iff_lt_mul hk0).2 hj
    obtain ⟨cs, y, hcs, _⟩ := each _ hi
    obtain ⟨_, hl, hc⟩ := World.cells?_some hcs
    have hm := Nat.mod_lt j hk0
    have h2 := hc _ hm
    rw [addr_add, Nat.mul_comm, Nat.div_add_mod, List.getElem?_eq_getElem (by omega)] at h2
    exact ⟨_, h2⟩
  refine ⟨xs, hxl, hxs, fun i hi => ?_⟩
  obtain ⟨cs, y, hcs, hy⟩ := each i hi
  obtain ⟨_, hl, hc⟩ := World.cells?_some hcs
  refine ⟨y, ?_⟩
  have hle : i * Tryz.prog.cellsOf t + Tryz.prog.cellsOf t ≤ len * Tryz.prog.cellsOf t := by
    rw [← Nat.succ_mul]
    exact Nat.mul_le_mul_right _ hi
  have e : (xs.drop (i * Tryz.prog.cellsOf t)).take (Tryz.prog.cellsOf t) = cs := by
    refine List.ext_getElem? fun j => ?_
    rw [List.getElem?_take]
    split
    · rename_i hj
      rw [List.getElem?_drop, ← hc j hj, addr_add, List.getElem?_eq_getElem (by omega)]
      exact (hxs _ _ (List.getElem?_eq_getElem (by omega))).symm
    · rename_i hj
      rw [List.getElem?_eq_none (by omega)]
  rw [e]
  exact hy

theorem names_row {fuel : Nat} {cs : List Value} {x : DataW H × List MemPlace} (h : DataW.trod enc Tryz.prog W 0 spare held fuel 23 cs = some x) :
    ∃ A c, ∃ ns : List ByteArray, cs = [.slice A ns.length c] ∧ ns.length ≤ c ∧ c ≤ maxLen ∧ (∀ s ∈ ns, s.size ≤ maxLen) ∧ SegR (fun _ => False) W A (ns.map Value.string) := by
  rcases DataW.trod_slice Tryz.underlying23 h with ⟨rfl, _⟩ | ⟨a, len, cap, elems, rest, n, _, rfl, rfl, hb, hl, hm, hlen, hel, _, _⟩
  · exact ⟨none, 0, [], rfl, Nat.le_refl _, Nat.zero_le _, fun s h => by simp at h, SegR.nil _ _ _⟩
  · obtain ⟨xs, hxl, hxs, hx⟩ := cells_row (k := 1) (by kernel_rfl) hlen hel
    obtain ⟨ns, hnl, hns⟩ := list_choose (P := fun i (s : ByteArray) => xs[i]? = some (.string s) ∧ s.size ≤ maxLen) len fun i hi => by
      obtain ⟨y, hy⟩ := hx i hi
      obtain ⟨s, hs, _, hsz⟩ := DataW.trod_string Tryz.underlying9 hy
      refine ⟨s, ?_, hsz⟩
      have : ((xs.drop (i * 1)).take 1)[0]? = some (.string s) := by rw [hs]; rfl
      rw [List.getElem?_take, if_pos (by omega), List.getElem?_drop] at this
      simpa using this
    subst hnl
    refine ⟨some a, cap, ns, rfl, hl, hm, fun s hs => ?_, segR_of fun j u hu => ?_⟩
    · obtain ⟨i, hi, e⟩ := List.mem_iff_getElem.1 hs
      exact (hns i s (by rw [List.getElem?_eq_getElem hi, e])).2
    · rw [List.getElem?_map, Option.map_eq_some_iff] at hu
      obtain ⟨s, hs, rfl⟩ := hu
      exact hxs j _ (hns j s hs).1

set_option maxRecDepth 10000 in
theorem tyAt_trod : ∀ (fuel : Nat) (cs : List Value) (x : DataW H × List MemPlace), DataW.trod enc Tryz.prog W 0 spare held fuel 25 cs = some x → ∃ T, TyAt (fun _ => False) fuel W (.agg cs.toArray) T := by
  intro fuel
  induction fuel using Nat.strongRecOn with
  | ind fuel ih =>
  intro cs x h
  obtain ⟨xs, n, rfl, _, hcl, hxl, hf⟩ := DataW.trod_struct Tryz.underlying25 h
  have c25 : Tryz.prog.cellsOf 25 = 3 := by kernel_rfl
  have hc3 : cs.length = 3 := hcl.trans c25
  obtain ⟨a, b, c, rfl⟩ : ∃ a b c, cs = [a, b, c] := by
    match cs, hc3 with
    | [a, b, c], _ => exact ⟨a, b, c, rfl⟩
  have c3 : Tryz.prog.cellsOf 3 = 1 := by kernel_rfl
  have c22 : Tryz.prog.cellsOf 22 = 1 := by kernel_rfl
  have c23 : Tryz.prog.cellsOf 23 = 1 := by kernel_rfl
  have hxl' : xs.length = 3 := hxl
  have f0 : DataW.trod enc Tryz.prog W 0 spare held n 3 (([a, b, c].drop 0).take (Tryz.prog.cellsOf 3)) = xs[0]? := hf 0 _ rfl
  have f1 : DataW.trod enc Tryz.prog W 0 spare held n 22 (([a, b, c].drop 1).take (Tryz.prog.cellsOf 22)) = xs[1]? := hf 1 _ rfl
  have f2 : DataW.trod enc Tryz.prog W 0 spare held n 23 (([a, b, c].drop 2).take (Tryz.prog.cellsOf 23)) = xs[2]? := hf 2 _ rfl
  rw [List.getElem?_eq_getElem (by omega), c3] at f0
  rw [List.getElem?_eq_getElem (by omega), c22] at f1
  rw [List.getElem?_eq_getElem (by omega), c23] at f2
  simp only [List.drop_zero, List.drop_succ_cons, List.take_succ_cons, List.take_zero] at f0 f1 f2
  obtain ⟨k, hk, _, _⟩ := DataW.trod_int Tryz.underlying3 f0
  obtain ⟨A', c', ns, hns, h3, h4, hnb, h5⟩ := names_row f2
  simp only [List.cons.injEq, and_true] at hk hns
  subst hk; subst hns
  rcases DataW.trod_slice Tryz.underlying22 f1 with ⟨hb, _⟩ | ⟨ad, len, cap, elems, rest, n', hn', hb, _, _, hl, hm, hlen, hel, _, _⟩
  · simp only [List.cons.injEq, and_true] at hb
    subst hb
    exact ⟨.mk k [] ns, none, 0, A', c', [], rfl, Nat.le_refl _, Nat.zero_le _, h3, h4, hnb, h5, rfl, SegR.nil _ _ _, fun i t ht => by simp at ht⟩
  · simp only [List.cons.injEq, and_true] at hb
    subst hb
    subst hn'
    obtain ⟨ys, hyl, hys, hy⟩ := cells_row (k := 3) (by kernel_rfl) hlen hel
    obtain ⟨Ts, hTl, hTs⟩ := list_choose (P := fun i (t : Ty) => ∃ a b d, ys[i * 3]? = some a ∧ ys[i * 3 + 1]? = some b ∧ ys[i * 3 + 2]? = some d ∧ TyAt (fun _ => False) n' W (.agg #[a, b, d]) t) len fun i hi => by
      obtain ⟨y, hy'⟩ := hy i hi
      obtain ⟨t, ht⟩ := ih n' (by omega) _ _ hy'
      have hl3 : i * 3 + 2 < ys.length := by omega
      have e : (ys.drop (i * 3)).take 3 = [ys[i * 3], ys[i * 3 + 1], ys[i * 3 + 2]] := by
        refine List.ext_getElem? fun j => ?_
        rw [List.getElem?_take]
        split
        · rename_i hj
          rw [List.getElem?_drop]
          rcases (show j = 0 ∨ j = 1 ∨ j = 2 by omega) with rfl | rfl | rfl
          · rw [List.getElem?_eq_getElem (by omega)]; rfl
          · rw [List.getElem?_eq_getElem (by omega)]; rfl
          · rw [List.getElem?_eq_getElem (by omega)]; rfl
        · rename_i hj
          rw [List.getElem?_eq_none (by simp; omega)]
      rw [e] at ht
      exact ⟨t, _, _, _, List.getElem?_eq_getElem (by omega), List.getElem?_eq_getElem (by omega), List.getElem?_eq_getElem (by omega), ht⟩
    subst hTl
    refine ⟨.mk k Ts ns, some ad, cap, A', c', ys, rfl, hl, hm, h3, h4, hnb, h5, hyl, segR_of hys, fun i t ht => ?_⟩
    obtain ⟨a, b, d, ha, hb, hd, hT⟩ := hTs i t ht
    exact ⟨a, b, d, ha, hb, hd, TyAt.up _ _ _ hT⟩
end
end Go.Proofs.YtammjbmfiakbnaaGreatDoor
