/- A part of the proof that the card of laws.FnMarshal holds. No conditions. -/
import Derived.Test.YtammjbmfiakbnaaGreatDoorM00
import Derived.Test.YtammjbmfiakbnaaGreatDoorM02
import GoSem.ClaimJoined
import Derived.WalkKit
import Derived.Laws.AppendOwn
import Derived.Test.YtammjbmfiakbnaaGreatDoorProg
import Derived.Laws.Externs
import Derived.Lib.Mul64
import Derived.Laws.Bits64b
import Derived.Test.YtammjbmfiakbnaaGreatDoorM01
set_option linter.unusedSimpArgs false
set_option linter.unusedVariables false
namespace Go.Proofs.YtammjbmfiakbnaaGreatDoor
open Go.ChangeShapes Go.WideShapes Go.ChangeAt Go.RowKit
section
variable {H : Type} {enc : TypeId × Value → H} {W : World} {spare : Nat → Bool} {held : Bool}
/-- All that a datum holds fits. -/
def Low (t : TypeId) (d : DataW H) : Prop := ∀ n ∈ DataW.weights Tryz.prog t d, n ≤ reach
theorem mem_each : ∀ (ts : List TypeId) (ds : List (DataW H)) (i : Nat) (t : TypeId) (d : DataW H) (n : Nat), ts[i]? = some t → ds[i]? = some d → n ∈ DataW.weights Tryz.prog t d → n ∈ DataW.weightsEach Tryz.prog ts ds
 |[], _, i, _, _, _, h, _, _ => by simp at h
 |_ :: _, [], i, _, _, _, _, h, _ => by simp at h
 |a :: ts, b :: ds, 0, t, d, n, h, h', hn => by
  simp only [List.getElem?_cons_zero, Option.some.injEq] at h h'
  subst h; subst h'
  unfold DataW.weightsEach
  exact List.mem_append_left _ hn
 |a :: ts, b :: ds, i + 1, t, d, n, h, h', hn => by
  unfold DataW.weightsEach
  exact List.mem_append_right _ (mem_each ts ds i t d n (by simpa using h) (by simpa using h') hn)
theorem mem_all (e : TypeId) : ∀ (ds : List (DataW H)) (d : DataW H) (n : Nat), d ∈ ds → n ∈ DataW.weights Tryz.prog e d → n ∈ DataW.weightsAll Tryz.prog e ds
 |[], _, _, h, _ => by simp at h
 |a :: ds, d, n, h, hn => by
  unfold DataW.weightsAll
  rcases List.mem_cons.1 h with rfl | h
  ·exact List.mem_append_left _ hn
  ·exact List.mem_append_right _ (mem_all e ds d n h hn)
theorem Low.part {t : TypeId} {fs : Array Field} {ds : List (DataW H)} (ht : Tryz.prog.underlying t = some (.struct fs)) (h : Low t (.agg ds)) (i : Nat) (u : TypeId) (d : DataW H) (hu : (fs.toList.map (·.type))[i]? = some u) (hd : ds[i]? = some d) : Low u d := fun n hn => h n (by
 unfold DataW.weights
 rw [ht]
 exact mem_each _ _ i u d n hu hd hn)
theorem Low.elem {t e : TypeId} {es sp : List (DataW H)} (ht : Tryz.prog.underlying t = some (.slice e)) (h : Low t (.slice es sp)) (d : DataW H) (hd : d ∈ es) : Low e d := fun n hn => h n (by
 unfold DataW.weights
 rw [ht]
 exact List.mem_cons_of_mem _ (List.mem_append_left _ (mem_all e es d n hd hn)))
theorem Low.len {t e : TypeId} {es sp : List (DataW H)} (ht : Tryz.prog.underlying t = some (.slice e)) (h : Low t (.slice es sp)) : es.length * Tryz.prog.bytesOf e ≤ reach :=
 Nat.le_trans (Nat.mul_le_mul_right _ (Nat.le_add_right _ _)) (h _ (by
  unfold DataW.weights
  rw [ht]
  exact List.mem_cons_self))
theorem f64_of {n : Nat} (h : (Lit.float .f64 n).wf = true) : n < 18446744073709551616 := by
 have h1 : decide (n < 2 ^ 64) = true := h
 exact of_decide_eq_true h1
theorem trod_float {P : Program} {t : TypeId} {k : FloatKind} {fuel : Nat} {cs : List Value} {x : DataW H × List MemPlace} (ht : P.underlying t = some (.float k)) (h : DataW.trod enc P W 0 spare held fuel t cs = some x) : ∃ b, cs = [.float k b] ∧ (Lit.float k b).wf = true := by
 cases fuel with
 |zero => simp [DataW.trod] at h
 |succ n =>
  unfold DataW.trod at h
  rw [ht] at h
  split at h <;> simp_all
theorem i64_of {n : Int} (h : (Lit.int .i64 n).wf = true) : -9223372036854775808 ≤ n ∧ n ≤ 9223372036854775807 := by
 simp only [Lit.wf, Bool.and_eq_true, decide_eq_true_eq] at h
 exact h
theorem u8_of {n : Int} (h : (Lit.int .u8 n).wf = true) : ∃ u : UInt8, byteV u = .int .u8 n := by
 simp only [Lit.wf, Bool.and_eq_true, decide_eq_true_eq] at h
 have h1 : (0 : Int) ≤ n := h.1
 have h2 : n ≤ 255 := h.2
 refine ⟨UInt8.ofNat n.toNat, ?_⟩
 unfold byteV
 congr 1
 simp
 omega
theorem bytes_row {fuel : Nat} {cs : List Value} {x : DataW H × List MemPlace} (h : DataW.trod enc Tryz.prog W 0 spare held fuel 27 cs = some x) (hl : Low 27 x.1) :
  ∃ A c, ∃ l : List UInt8, cs = [.slice A l.length c] ∧ l.length ≤ c ∧ c ≤ maxLen ∧ l.length ≤ reach ∧ SegR (fun _ => False) W A (l.map byteV) := by
 rcases DataW.trod_slice Tryz.underlying27 h with ⟨rfl, _⟩ | ⟨a, len, cap, elems, rest, n, _, rfl, rfl, hb, hl', hm, hlen, hel, _, _⟩
 ·exact ⟨none, 0, [], rfl, Nat.le_refl _, Nat.zero_le _, Nat.zero_le _, SegR.nil _ _ _⟩
 ·have hw := hl.len Tryz.underlying27
  rw [show Tryz.prog.bytesOf 5 = 1 by kernel_rfl, Nat.mul_one, List.length_map, hlen] at hw
  obtain ⟨xs, hxl, hxs, hx⟩ := cells_row (k := 1) (by kernel_rfl) hlen hel
  obtain ⟨l, hnl, hns⟩ := list_choose (P := fun i (u : UInt8) => xs[i]? = some (byteV u)) len fun i hi => by
   obtain ⟨y, hy⟩ := hx i hi
   obtain ⟨n, hs, _, hwf⟩ := DataW.trod_int Tryz.underlying5 hy
   obtain ⟨u, hu⟩ := u8_of hwf
   refine ⟨u, ?_⟩
   rw [hu]
   have : ((xs.drop (i * 1)).take 1)[0]? = some (.int .u8 n) := by rw [hs]; rfl
   rw [List.getElem?_take, if_pos (by omega), List.getElem?_drop] at this
   simpa using this
  subst hnl
  refine ⟨some a, cap, l, rfl, hl', hm, hw, segR_of fun j u hu => ?_⟩
  rw [List.getElem?_map, Option.map_eq_some_iff] at hu
  obtain ⟨s, hs, rfl⟩ := hu
  exact hxs j _ (hns j s hs)
theorem vals_row {fuel : Nat} {cs : List Value} {x : DataW H × List MemPlace} (ih : ∀ m, m < fuel → ∀ (cs : List Value) (x : DataW H × List MemPlace), DataW.trod enc Tryz.prog W 0 spare held m 30 cs = some x → Low 30 x.1 → ∃ V, VlAt (fun _ => False) m W cs V)
  (h : DataW.trod enc Tryz.prog W 0 spare held fuel 28 cs = some x) (hl : Low 28 x.1) :
  ∃ A c, ∃ l : List Vl, cs = [.slice A l.length c] ∧ l.length ≤ c ∧ c ≤ maxLen ∧ RowOf (fun _ => False) W A (VlAt (fun _ => False) fuel W) l := by
 rcases DataW.trod_slice Tryz.underlying28 h with ⟨rfl, _⟩ | ⟨a, len, cap, elems, rest, n, rfl, rfl, rfl, hb, hl', hm, hlen, hel, _, _⟩
 ·exact ⟨none, 0, [], rfl, Nat.le_refl _, Nat.zero_le _, RowOf.nil _ _ _ _⟩
 ·obtain ⟨xs, hxl, hxs, _⟩ := cells_row (k := 11) (by kernel_rfl) hlen hel
  have c30 : Tryz.prog.cellsOf 30 = 11 := by kernel_rfl
  obtain ⟨l, hnl, hns⟩ := list_choose (P := fun i (V : Vl) => VlAt (fun _ => False) n W ((xs.drop (i * 11)).take 11) V) len fun i hi => by
   have h1 := hel i hi
   rw [List.getElem?_eq_getElem (by omega), Option.bind_eq_some_iff, c30] at h1
   obtain ⟨cs, hcs, hy⟩ := h1
   obtain ⟨V, hV⟩ := ih n (by omega) cs _ hy (hl.elem Tryz.underlying28 _ (by
    rw [List.mem_map]
    exact ⟨_, List.getElem_mem (by omega), rfl⟩))
   obtain ⟨_, hcl, hc⟩ := World.cells?_some hcs
   have e : (xs.drop (i * 11)).take 11 = cs := by
    refine List.ext_getElem? fun j => ?_
    rw [List.getElem?_take]
    split
    ·rename_i hj
     rw [List.getElem?_drop, ← hc j hj, addr_add, List.getElem?_eq_getElem (by omega)]
     exact (hxs _ _ (List.getElem?_eq_getElem (by omega))).symm
    ·rename_i hj
     rw [List.getElem?_eq_none (by omega)]
   exact ⟨V, by rw [e]; exact hV⟩
  subst hnl
  exact ⟨some a, cap, l, rfl, hl', hm, xs, hxl, segR_of hxs, fun i t ht => VlAt.up _ _ _ (hns i t ht)⟩
set_option maxRecDepth 10000 in
theorem vlAt_trod : ∀ (fuel : Nat) (cs : List Value) (x : DataW H × List MemPlace), DataW.trod enc Tryz.prog W 0 spare held fuel 30 cs = some x → Low 30 x.1 → ∃ V, VlAt (fun _ => False) fuel W cs V := by
 intro fuel
 induction fuel using Nat.strongRecOn with
 |ind fuel ih =>
 intro cs x h hlow
 obtain ⟨xs, n, rfl, rfl, hcl, hxl, hf⟩ := DataW.trod_struct Tryz.underlying30 h
 have c30 : Tryz.prog.cellsOf 30 = 11 := by kernel_rfl
 have hc11 : cs.length = 11 := hcl.trans c30
 obtain ⟨a0, a1, a2, a3, a4, a5, a6, a7, a8, a9, a10, rfl⟩ : ∃ a0 a1 a2 a3 a4 a5 a6 a7 a8 a9 a10, cs = [a0, a1, a2, a3, a4, a5, a6, a7, a8, a9, a10] := by
  match cs, hc11 with
  |[a0, a1, a2, a3, a4, a5, a6, a7, a8, a9, a10], _ => exact ⟨a0, a1, a2, a3, a4, a5, a6, a7, a8, a9, a10, rfl⟩
 have hxl' : xs.length = 11 := hxl
 have q4 : Tryz.prog.cellsOf 4 = 1 := by kernel_rfl
 have q2 : Tryz.prog.cellsOf 2 = 1 := by kernel_rfl
 have q26 : Tryz.prog.cellsOf 26 = 1 := by kernel_rfl
 have q9 : Tryz.prog.cellsOf 9 = 1 := by kernel_rfl
 have q27 : Tryz.prog.cellsOf 27 = 1 := by kernel_rfl
 have q3 : Tryz.prog.cellsOf 3 = 1 := by kernel_rfl
 have q28 : Tryz.prog.cellsOf 28 = 1 := by kernel_rfl
 have f0 : DataW.trod enc Tryz.prog W 0 spare held n 4 (([a0, a1, a2, a3, a4, a5, a6, a7, a8, a9, a10].drop 0).take (Tryz.prog.cellsOf 4)) = xs[0]? := hf 0 _ rfl
 have f1 : DataW.trod enc Tryz.prog W 0 spare held n 2 (([a0, a1, a2, a3, a4, a5, a6, a7, a8, a9, a10].drop 1).take (Tryz.prog.cellsOf 2)) = xs[1]? := hf 1 _ rfl
 have f2 : DataW.trod enc Tryz.prog W 0 spare held n 26 (([a0, a1, a2, a3, a4, a5, a6, a7, a8, a9, a10].drop 2).take (Tryz.prog.cellsOf 26)) = xs[2]? := hf 2 _ rfl
 have f3 : DataW.trod enc Tryz.prog W 0 spare held n 9 (([a0, a1, a2, a3, a4, a5, a6, a7, a8, a9, a10].drop 3).take (Tryz.prog.cellsOf 9)) = xs[3]? := hf 3 _ rfl
 have f4 : DataW.trod enc Tryz.prog W 0 spare held n 27 (([a0, a1, a2, a3, a4, a5, a6, a7, a8, a9, a10].drop 4).take (Tryz.prog.cellsOf 27)) = xs[4]? := hf 4 _ rfl
 have f5 : DataW.trod enc Tryz.prog W 0 spare held n 3 (([a0, a1, a2, a3, a4, a5, a6, a7, a8, a9, a10].drop 5).take (Tryz.prog.cellsOf 3)) = xs[5]? := hf 5 _ rfl
 have f6 : DataW.trod enc Tryz.prog W 0 spare held n 3 (([a0, a1, a2, a3, a4, a5, a6, a7, a8, a9, a10].drop 6).take (Tryz.prog.cellsOf 3)) = xs[6]? := hf 6 _ rfl
 have f7 : DataW.trod enc Tryz.prog W 0 spare held n 3 (([a0, a1, a2, a3, a4, a5, a6, a7, a8, a9, a10].drop 7).take (Tryz.prog.cellsOf 3)) = xs[7]? := hf 7 _ rfl
 have f8 : DataW.trod enc Tryz.prog W 0 spare held n 2 (([a0, a1, a2, a3, a4, a5, a6, a7, a8, a9, a10].drop 8).take (Tryz.prog.cellsOf 2)) = xs[8]? := hf 8 _ rfl
 have f9 : DataW.trod enc Tryz.prog W 0 spare held n 28 (([a0, a1, a2, a3, a4, a5, a6, a7, a8, a9, a10].drop 9).take (Tryz.prog.cellsOf 28)) = xs[9]? := hf 9 _ rfl
 have f10 : DataW.trod enc Tryz.prog W 0 spare held n 28 (([a0, a1, a2, a3, a4, a5, a6, a7, a8, a9, a10].drop 10).take (Tryz.prog.cellsOf 28)) = xs[10]? := hf 10 _ rfl
 clear hf
 rw [List.getElem?_eq_getElem (by omega), q4] at f0
 rw [List.getElem?_eq_getElem (by omega), q2] at f1
 rw [List.getElem?_eq_getElem (by omega), q26] at f2
 rw [List.getElem?_eq_getElem (by omega), q9] at f3
 rw [List.getElem?_eq_getElem (by omega), q27] at f4
 rw [List.getElem?_eq_getElem (by omega), q3] at f5
 rw [List.getElem?_eq_getElem (by omega), q3] at f6
 rw [List.getElem?_eq_getElem (by omega), q3] at f7
 rw [List.getElem?_eq_getElem (by omega), q2] at f8
 rw [List.getElem?_eq_getElem (by omega), q28] at f9
 rw [List.getElem?_eq_getElem (by omega), q28] at f10
 simp only [List.drop_zero, List.drop_succ_cons, List.take_succ_cons, List.take_zero] at f0 f1 f2 f3 f4 f5 f6 f7 f8 f9 f10
 have hp := fun i u d => Low.part Tryz.underlying30 hlow i u d
 have p3 := hp 3 9 xs[3].1 rfl (by rw [List.getElem?_map, List.getElem?_eq_getElem (by omega)]; rfl)
 have p4 := hp 4 27 xs[4].1 rfl (by rw [List.getElem?_map, List.getElem?_eq_getElem (by omega)]; rfl)
 have p9 := hp 9 28 xs[9].1 rfl (by rw [List.getElem?_map, List.getElem?_eq_getElem (by omega)]; rfl)
 have p10 := hp 10 28 xs[10].1 rfl (by rw [List.getElem?_map, List.getElem?_eq_getElem (by omega)]; rfl)
 clear hp
 obtain ⟨k0, e0, _⟩ := DataW.trod_bool Tryz.underlying4 f0
 obtain ⟨k1, e1, _, w1⟩ := DataW.trod_int Tryz.underlying2 f1
 obtain ⟨k2, e2, w2⟩ := trod_float Tryz.underlying26 f2
 obtain ⟨k3, e3, x3, w3⟩ := DataW.trod_string Tryz.underlying9 f3
 obtain ⟨A, c, l, e4, g1, g2, g3, g4⟩ := bytes_row f4 p4
 obtain ⟨k5, e5, _, w5⟩ := DataW.trod_int Tryz.underlying3 f5
 obtain ⟨k6, e6, _, w6⟩ := DataW.trod_int Tryz.underlying3 f6
 obtain ⟨k7, e7, _, w7⟩ := DataW.trod_int Tryz.underlying3 f7
 obtain ⟨k8, e8, _, w8⟩ := DataW.trod_int Tryz.underlying2 f8
 obtain ⟨A1, c1, l1, e9, h1, h2, h3⟩ := vals_row (fun m hm => ih m (by omega)) f9 p9
 obtain ⟨A2, c2, l2, e10, j1, j2, j3⟩ := vals_row (fun m hm => ih m (by omega)) f10 p10
 have hs : k3.size ≤ reach := by
  have := p3 k3.size (by
   rw [x3]
   unfold DataW.weights
   simp)
  exact this
 simp only [List.cons.injEq, and_true] at e0 e1 e2 e3 e4 e5 e6 e7 e8 e9 e10
 subst e0; subst e1; subst e2; subst e3; subst e4; subst e5; subst e6; subst e7; subst e8; subst e9; subst e10
 exact ⟨.mk ⟨k0, k1, k2, k3, l, k5, k6, k7, k8⟩ l1 l2, A, c, A1, c1, A2, c2, rfl, g1, g2, h1, h2, j1, j2, ⟨hs, g3, i64_of w1, f64_of w2, i64_of w5, i64_of w6, i64_of w7, i64_of w8⟩, g4, h3, j3⟩
end
end Go.Proofs.YtammjbmfiakbnaaGreatDoor
namespace Go.Proofs.YtammjbmfiakbnaaGreatDoor
/-- Bytes as a number, the highest one first. -/
def beVal : List UInt8 → Nat
 |[] => 0
 |a :: r => a.toNat * 256 ^ r.length + beVal r
/-- The same, with a sign. -/
def tcVal : List UInt8 → Int
 |[] => 0
 |a :: r => (beVal (a :: r) : Int) - (if 128 ≤ a.toNat then (256 : Int) ^ (r.length + 1) else 0)
/-- As few bytes as there can be. -/
def MinB (L : List UInt8) : Prop := ∀ a b r, L = a :: b :: r → ¬ (a.toNat = 0 ∧ b.toNat < 128) ∧ ¬ (a.toNat = 255 ∧ 128 ≤ b.toNat)
/-- A number's bytes in two's complement. -/
def IsTc (n : Int) (L : List UInt8) : Prop := L ≠ [] ∧ tcVal L = n ∧ MinB L
/-- The bytes. -/
noncomputable def tc (n : Int) : List UInt8 := Classical.epsilon (IsTc n)
theorem byte_lt (a : UInt8) : a.toNat < 256 := a.toNat_lt
theorem beVal_lt : ∀ L : List UInt8, beVal L < 256 ^ L.length
 |[] => by simp [beVal]
 |a :: r => by
  have h := beVal_lt r
  have ha := byte_lt a
  simp only [beVal, List.length_cons, Nat.pow_succ]
  have : a.toNat * 256 ^ r.length ≤ 255 * 256 ^ r.length := Nat.mul_le_mul_right _ (by omega)
  omega
theorem beVal_inj : ∀ L L' : List UInt8, L.length = L'.length → beVal L = beVal L' → L = L'
 |[], [], _, _ => rfl
 |[], _ :: _, h, _ => by simp at h
 |_ :: _, [], h, _ => by simp at h
 |a :: r, a' :: r', hl, h => by
  simp only [List.length_cons, Nat.add_right_cancel_iff] at hl
  simp only [beVal, ← hl] at h
  have h1 := beVal_lt r
  have h2 := beVal_lt r'
  rw [← hl] at h2
  have hp : 0 < 256 ^ r.length := Nat.pow_pos (by omega)
  have ha : a.toNat = a'.toNat := by
   have e1 : (a.toNat * 256 ^ r.length + beVal r) / 256 ^ r.length = a.toNat := by
    rw [Nat.mul_comm, Nat.mul_add_div hp, Nat.div_eq_of_lt h1, Nat.add_zero]
   have e2 : (a'.toNat * 256 ^ r.length + beVal r') / 256 ^ r.length = a'.toNat := by
    rw [Nat.mul_comm, Nat.mul_add_div hp, Nat.div_eq_of_lt h2, Nat.add_zero]
   rw [← e1, ← e2, h]
  rw [ha] at h
  rw [UInt8.toNat_inj.1 ha, beVal_inj r r' hl (by omega)]
theorem tcVal_range (a : UInt8) (r : List UInt8) : -(128 * (256 : Int) ^ r.length) ≤ tcVal (a :: r) ∧ tcVal (a :: r) < 128 * (256 : Int) ^ r.length := by
 have h1 := beVal_lt r
 have ha := byte_lt a
 have hc : ((256 ^ r.length : Nat) : Int) = (256 : Int) ^ r.length := Int.natCast_pow _ _
 simp only [tcVal, beVal]
 rw [Int.pow_succ, ← hc]
 simp only [Int.natCast_add, Int.natCast_mul]
 generalize hB : (256 ^ r.length : Nat) = B at h1
 split
 ·rename_i h
  have : (a.toNat : Int) * B ≤ 255 * B := Int.mul_le_mul_of_nonneg_right (by omega) (by omega)
  have : 128 * (B : Int) ≤ (a.toNat : Int) * B := Int.mul_le_mul_of_nonneg_right (by omega) (by omega)
  omega
 ·rename_i h
  have : (a.toNat : Int) * B ≤ 127 * B := Int.mul_le_mul_of_nonneg_right (by omega) (by omega)
  have : 0 ≤ (a.toNat : Int) * B := Int.mul_nonneg (by omega) (by omega)
  omega
theorem tcVal_min (a b : UInt8) (r : List UInt8) (h : MinB (a :: b :: r)) : tcVal (a :: b :: r) < -(128 * (256 : Int) ^ r.length) ∨ 128 * (256 : Int) ^ r.length ≤ tcVal (a :: b :: r) := by
 obtain ⟨g1, g2⟩ := h a b r rfl
 have h1 := beVal_lt r
 have ha := byte_lt a
 have hb := byte_lt b
 have hc : ((256 ^ r.length : Nat) : Int) = (256 : Int) ^ r.length := Int.natCast_pow _ _
 simp only [tcVal, beVal, List.length_cons]
 rw [Int.pow_succ, Int.pow_succ, ← hc]
 rw [Nat.pow_succ]
 simp only [Int.natCast_add, Int.natCast_mul]
 rw [show ((256 : Nat) : Int) = 256 from rfl]
 generalize (256 ^ r.length : Nat) = B at h1
 have e : (a.toNat : Int) * ((B : Int) * 256) = 256 * ((a.toNat : Int) * B) := by
  rw [Int.mul_comm (B : Int), ← Int.mul_assoc, Int.mul_comm (a.toNat : Int), Int.mul_assoc]
 rw [e]
 have m0 : 0 ≤ (b.toNat : Int) * B := Int.mul_nonneg (by omega) (by omega)
 have m1 : (b.toNat : Int) * B ≤ 255 * B := Int.mul_le_mul_of_nonneg_right (by omega) (by omega)
 split
 ·rename_i h
  left
  by_cases h255 : a.toNat = 255
  ·have m2 : (b.toNat : Int) * B ≤ 127 * B := Int.mul_le_mul_of_nonneg_right (by omega) (by omega)
   rw [h255]
   omega
  ·have m2 : (a.toNat : Int) * B ≤ 254 * B := Int.mul_le_mul_of_nonneg_right (by omega) (by omega)
   omega
 ·rename_i h
  right
  by_cases h0 : a.toNat = 0
  ·have m2 : 128 * (B : Int) ≤ (b.toNat : Int) * B := Int.mul_le_mul_of_nonneg_right (by omega) (by omega)
   rw [h0]
   omega
  ·have m2 : 1 * (B : Int) ≤ (a.toNat : Int) * B := Int.mul_le_mul_of_nonneg_right (by omega) (by omega)
   omega
theorem pow256_mono {a b : Nat} (h : a ≤ b) : (256 : Int) ^ a ≤ (256 : Int) ^ b := by
 have := Nat.pow_le_pow_right (n := 256) (by omega) h
 have h1 : ((256 ^ a : Nat) : Int) = (256 : Int) ^ a := Int.natCast_pow _ _
 have h2 : ((256 ^ b : Nat) : Int) = (256 : Int) ^ b := Int.natCast_pow _ _
 omega
theorem tc_len {n : Int} {L L' : List UInt8} (h : IsTc n L) (h' : IsTc n L') : L.length ≤ L'.length := by
 obtain ⟨h1, h2, h3⟩ := h
 obtain ⟨h1', h2', h3'⟩ := h'
 cases L with
 |nil => exact absurd rfl h1
 |cons a r =>
  cases L' with
  |nil => exact absurd rfl h1'
  |cons a' r' =>
   cases r with
   |nil => simp
   |cons b r =>
    rcases Nat.lt_or_ge (r'.length) (r.length + 1) with hlt | hge
    ·have g1 := tcVal_min a b r h3
     have g2 := tcVal_range a' r'
     have g3 := pow256_mono (show r'.length ≤ r.length by omega)
     rw [h2] at g1
     rw [h2'] at g2
     omega
    ·simp; omega
theorem IsTc.uniq {n : Int} {L L' : List UInt8} (h : IsTc n L) (h' : IsTc n L') : L = L' := by
 have hl : L.length = L'.length := Nat.le_antisymm (tc_len h h') (tc_len h' h)
 refine beVal_inj L L' hl ?_
 obtain ⟨h1, h2, _⟩ := h
 obtain ⟨h1', h2', _⟩ := h'
 have b1 := beVal_lt L
 have b2 := beVal_lt L'
 cases L with
 |nil => exact absurd rfl h1
 |cons a r =>
  cases L' with
  |nil => exact absurd rfl h1'
  |cons a' r' =>
   simp only [List.length_cons, Nat.add_right_cancel_iff] at hl
   simp only [tcVal, ← hl] at h2 h2'
   simp only [List.length_cons] at b1 b2
   rw [← hl] at b2
   have hc : ((256 ^ (r.length + 1) : Nat) : Int) = (256 : Int) ^ (r.length + 1) := Int.natCast_pow _ _
   rw [← hc] at h2 h2'
   generalize (256 ^ (r.length + 1) : Nat) = B at *
   split at h2 <;> split at h2' <;> omega
theorem beVal_snoc (m : List UInt8) (x : UInt8) : beVal (m ++ [x]) = 256 * beVal m + x.toNat := by
 induction m with
 |nil => simp [beVal]
 |cons b m ih =>
  have : b.toNat * (256 ^ m.length * 256) = 256 * (b.toNat * 256 ^ m.length) := by rw [Nat.mul_comm (256 ^ m.length) 256, ← Nat.mul_assoc, Nat.mul_comm b.toNat 256, Nat.mul_assoc]
  simp only [List.cons_append, beVal, ih, List.length_append, List.length_cons, List.length_nil, Nat.pow_succ, Nat.mul_add]
  simp only [Nat.zero_add, Nat.pow_one, Nat.mul_comm (256 ^ m.length) 256] at *
  omega
theorem tcVal_snoc (a : UInt8) (r : List UInt8) (x : UInt8) : tcVal ((a :: r) ++ [x]) = 256 * tcVal (a :: r) + x.toNat := by
 have h := beVal_snoc (a :: r) x
 rw [List.cons_append] at h ⊢
 simp only [tcVal]
 rw [h, List.length_append]
 simp only [List.length_cons, List.length_nil]
 rw [Int.pow_succ (256 : Int) (r.length + (0 + 1)), show r.length + (0 + 1) = r.length + 1 by omega]
 split <;> simp only [Int.natCast_add, Int.natCast_mul] <;> omega
theorem exists_tc : ∀ (k : Nat) (n : Int), n.natAbs ≤ k → ∃ L, IsTc n L := by
 intro k
 induction k with
 |zero =>
  intro n hn
  have : n = 0 := by omega
  subst this
  exact ⟨[0], by simp, by simp [tcVal, beVal], fun a b r e => by simp at e⟩
 |succ k ih =>
  intro n hn
  by_cases hs : -128 ≤ n ∧ n ≤ 127
  ·refine ⟨[UInt8.ofNat (n % 256).toNat], by simp, ?_, fun a b r e => by simp at e⟩
   have e : (UInt8.ofNat (n % 256).toNat).toNat = (n % 256).toNat := by rw [UInt8.toNat_ofNat']; omega
   simp only [tcVal, beVal, List.length_nil, Nat.pow_zero, e]
   split <;> simp <;> omega
  ·obtain ⟨L, h1, h2, h3⟩ := ih (n / 256) (by omega)
   have e : (UInt8.ofNat (n % 256).toNat).toNat = (n % 256).toNat := by rw [UInt8.toNat_ofNat']; omega
   cases L with
   |nil => exact absurd rfl h1
   |cons a r =>
    refine ⟨(a :: r) ++ [UInt8.ofNat (n % 256).toNat], by simp, ?_, fun a' b' r' e' => ?_⟩
    ·rw [tcVal_snoc, h2, e]
     omega
    ·cases r with
     |nil =>
      simp only [List.cons_append, List.nil_append, List.cons.injEq] at e'
      obtain ⟨rfl, rfl, _⟩ := e'
      rw [e]
      simp only [tcVal, beVal, List.length_nil, Nat.pow_zero] at h2
      have := byte_lt a
      split at h2 <;> simp at h2 <;> omega
     |cons b r =>
      simp only [List.cons_append, List.cons.injEq] at e'
      obtain ⟨rfl, rfl, _⟩ := e'
      exact h3 a b r rfl
theorem tc_spec (n : Int) : IsTc n (tc n) := Classical.epsilon_spec (p := IsTc n) (exists_tc n.natAbs n (Nat.le_refl _))
theorem tc_length {n : Int} (h : n.natAbs < 10 ^ 40) : (tc n).length ≤ 18 := by
 obtain ⟨h1, h2, h3⟩ := tc_spec n
 cases hL : tc n with
 |nil => simp
 |cons a r =>
  rw [hL] at h2 h3
  cases r with
  |nil => simp
  |cons b r =>
   rcases Nat.lt_or_ge r.length 17 with hlt | hge
   ·simp; omega
   ·have g1 := tcVal_min a b r h3
    have g2 := pow256_mono hge
    rw [h2] at g1
    have e : (256 : Int) ^ 17 = 87112285931760246646623899502532662132736 := by decide
    rw [e] at g2
    have e2 : (10 : Nat) ^ 40 = 10000000000000000000000000000000000000000 := by decide
    rw [e2] at h
    omega
theorem IsTc.tc_eq {n : Int} {L : List UInt8} (h : IsTc n L) : tc n = L := (Classical.epsilon_spec (p := IsTc n) ⟨L, h⟩ : IsTc n (tc n)).uniq h
/-- Digits as a number. -/
def decN (l : List UInt8) : Nat := l.foldl (fun a c => a * 10 + (c.toNat - 48)) 0
theorem decN_snoc (l : List UInt8) (c : UInt8) : decN (l ++ [c]) = decN l * 10 + (c.toNat - 48) := by simp [decN, List.foldl_append]
theorem decN_lt_aux : ∀ (l : List UInt8) (a : Nat), (∀ c ∈ l, c.toNat ≤ 57) → l.foldl (fun a c => a * 10 + (c.toNat - 48)) a < (a + 1) * 10 ^ l.length
 |[], a, _ => by simp
 |c :: r, a, h => by
  have h1 := decN_lt_aux r (a * 10 + (c.toNat - 48)) (fun x hx => h x (by simp [hx]))
  have h2 := h c (by simp)
  refine Nat.lt_of_lt_of_le h1 ?_
  rw [List.length_cons, Nat.pow_succ, Nat.mul_comm (10 ^ r.length) 10, ← Nat.mul_assoc]
  exact Nat.mul_le_mul_right _ (by omega)
theorem decN_lt (l : List UInt8) (h : ∀ c ∈ l, c.toNat ≤ 57) : decN l < 10 ^ l.length := by
 have := decN_lt_aux l 0 h
 simpa [decN] using this
/-- A whole number's text as a number. -/
def numOf : List UInt8 → Int
 |[] => 0
 |c :: r => if c = 45 then -(decN r : Int) else decN (c :: r)
/-- Bytes as a number, the lowest one first. -/
def leVal : List UInt8 → Nat
 |[] => 0
 |a :: r => a.toNat + 256 * leVal r
theorem leVal_append : ∀ (l m : List UInt8), leVal (l ++ m) = leVal l + 256 ^ l.length * leVal m
 |[], m => by simp [leVal]
 |a :: r, m => by
  have e : 256 ^ (r.length + 1) * leVal m = 256 * (256 ^ r.length * leVal m) := by rw [Nat.pow_succ, Nat.mul_comm (256 ^ r.length) 256, Nat.mul_assoc]
  simp only [List.cons_append, leVal, leVal_append r m, List.length_cons, e, Nat.mul_add]
  omega
theorem leVal_reverse : ∀ l : List UInt8, beVal l.reverse = leVal l
 |[] => rfl
 |a :: r => by
  have hs : ∀ (m : List UInt8) (x : UInt8), beVal (m ++ [x]) = 256 * beVal m + x.toNat := fun m x => by
   induction m with
   |nil => simp [beVal]
   |cons b m ih =>
    simp only [List.cons_append, beVal, ih, List.length_append, List.length_cons, List.length_nil, Nat.pow_succ, Nat.mul_add]
    have : b.toNat * (256 ^ m.length * 256) = 256 * (b.toNat * 256 ^ m.length) := by rw [Nat.mul_comm (256 ^ m.length) 256, ← Nat.mul_assoc, Nat.mul_comm b.toNat 256, Nat.mul_assoc]
    simp only [Nat.mul_comm (256 ^ m.length) 256] at *
    omega
  rw [List.reverse_cons, hs, leVal_reverse r, leVal]
  omega
/-- Words as a number, the lowest one first. -/
def wVal : List Nat → Nat
 |[] => 0
 |a :: r => a + 18446744073709551616 * wVal r
theorem wVal_append : ∀ (l m : List Nat), wVal (l ++ m) = wVal l + 18446744073709551616 ^ l.length * wVal m
 |[], m => by simp [wVal]
 |a :: r, m => by
  have e : 18446744073709551616 ^ (r.length + 1) * wVal m = 18446744073709551616 * (18446744073709551616 ^ r.length * wVal m) := by rw [Nat.pow_succ, Nat.mul_comm (18446744073709551616 ^ r.length) 18446744073709551616, Nat.mul_assoc]
  simp only [List.cons_append, wVal, wVal_append r m, List.length_cons, e, Nat.mul_add]
  omega
#print axioms IsTc.tc_eq
end Go.Proofs.YtammjbmfiakbnaaGreatDoor
namespace Go.Proofs.YtammjbmfiakbnaaGreatDoor
open Go.RowKit
/-- A store into a row. -/
theorem own_set {w : World} {b0 g n cap k : Nat} {e : TypeId} {xs : List Value} (h : w.ownsRow b0 e 1 (.slice (some ⟨g, 0, none⟩) n cap) n xs) (hk : k < n) (u : Value) :
  (w.setCell ⟨g, k, none⟩ u).ownsRow b0 e 1 (.slice (some ⟨g, 0, none⟩) n cap) n (xs.set k u) := by
 obtain ⟨h1, h2⟩ := h
 refine ⟨by simpa using h1, ?_⟩
 rcases h2 with ⟨h, _⟩ | ⟨g', cap', cur, hv, hb, hg, hc, hm, hs, ht⟩
 ·cases h
 ·injection hv with hv1 hv2 hv3; injection hv1 with hv1; injection hv1 with hv1; subst hv1; subst hv3
  refine .inr ⟨g, cap, cur.setIfInBounds k u, rfl, hb, ?_, hc, hm, by simpa using hs, ?_⟩
  ·simp [World.setCell, Array.getElem?_modify, hg]
  ·rw [← ht]
   simp only [Array.toList_setIfInBounds, List.take_set]
theorem own_get {w : World} {b0 g n cap : Nat} {e : TypeId} {xs : List Value} (h : w.ownsRow b0 e 1 (.slice (some ⟨g, 0, none⟩) n cap) n xs) {k : Nat} {u : Value} (hu : xs[k]? = some u) :
  w.cell? ⟨g, k, none⟩ = some u ∧ w.frozen? ⟨g, k, none⟩ = false := by
 obtain ⟨h1, h2⟩ := h
 rcases h2 with ⟨h, _⟩ | ⟨g', cap', cur, hv, hb, hg, hc, hm, hs, ht⟩
 ·cases h
 ·injection hv with hv1 hv2 hv3; injection hv1 with hv1; injection hv1 with hv1; subst hv1; subst hv3
  constructor
  ·rw [← ht, List.getElem?_take] at hu
   split at hu
   ·simpa [World.cell?, hg] using hu
   ·cases hu
  ·simp [World.frozen?, hg]
theorem own_bounds {w : World} {b0 g n cap : Nat} {e : TypeId} {xs : List Value} (h : w.ownsRow b0 e 1 (.slice (some ⟨g, 0, none⟩) n cap) n xs) : b0 ≤ g ∧ g < w.heap.size ∧ n ≤ cap ∧ cap ≤ maxLen := by
 obtain ⟨h1, h2⟩ := h
 rcases h2 with ⟨h, _⟩ | ⟨g', cap', cur, hv, hb, hg, hc, hm, hs, ht⟩
 ·cases h
 ·injection hv with hv1 hv2 hv3; injection hv1 with hv1; injection hv1 with hv1; subst hv1; subst hv3
  refine ⟨hb, ?_, hc, hm⟩
  rcases Nat.lt_or_ge g w.heap.size with hl | hge
  ·exact hl
  ·rw [Array.getElem?_eq_none hge] at hg; cases hg
/-- A row cut off at its end. -/
theorem own_cut {w : World} {b0 g n cap m : Nat} {e : TypeId} {xs : List Value} (h : w.ownsRow b0 e 1 (.slice (some ⟨g, 0, none⟩) n cap) n xs) (hm' : m ≤ n) : w.ownsRow b0 e 1 (.slice (some ⟨g, 0, none⟩) m cap) m (xs.take m) := by
 obtain ⟨h1, h2⟩ := h
 refine ⟨by simp; omega, ?_⟩
 rcases h2 with ⟨h, _⟩ | ⟨g', cap', cur, hv, hb, hg, hc, hm, hs, ht⟩
 ·cases h
 ·injection hv with hv1 hv2 hv3; injection hv1 with hv1; injection hv1 with hv1; subst hv1; subst hv3
  refine .inr ⟨g, cap, cur, rfl, hb, hg, by omega, hm, hs, ?_⟩
  rw [← ht, List.take_take]
  congr 1
  omega
theorem own_seg {w : World} {b0 g n cap : Nat} {e : TypeId} {xs : List Value} (h : w.ownsRow b0 e 1 (.slice (some ⟨g, 0, none⟩) n cap) n xs) : Seg w (some ⟨g, 0, none⟩) xs := fun _ =>
 ⟨g, 0, rfl, (own_bounds h).2.1, fun j u hu => by rw [Nat.zero_add]; exact (own_get h hu).1⟩
theorem own_bytes {w : World} {b0 n : Nat} {v : Value} {l : List UInt8} (h : w.ownsRow b0 5 1 v n (l.map byteV)) : Bytes w v l := by
 have hn : l.length = n := by simpa using h.1
 rcases h.2 with ⟨rfl, h0⟩ | ⟨g, cap, cur, rfl, hb, hg, hc, hm, hs, ht⟩
 ·have : l = [] := List.eq_nil_of_length_eq_zero (by omega)
  subst this
  exact Bytes.nil w
 ·subst hn
  exact ⟨_, cap, rfl, hc, own_seg (n := l.length) ⟨by simp, .inr ⟨g, cap, cur, rfl, hb, hg, hc, hm, hs, ht⟩⟩⟩
theorem take_set_succ {l : List UInt8} {k : Nat} (hk : k < l.length) (b : UInt8) : (l.set k b).take (k + 1) = l.take k ++ [b] := by
 rw [List.take_add_one, List.getElem?_set_self hk]
 simp [List.take_set_of_le]
theorem take_succ' {l : List UInt8} {k : Nat} (hk : k < l.length) : l.take (k + 1) = l.take k ++ [l[k]] := by
 rw [List.take_add_one, List.getElem?_eq_getElem hk]
 rfl
/-- The reference multiplies by ten and adds a digit: what its loop keeps. -/
structure MulL (l : List UInt8) (d : Nat) (k c : Nat) (l' : List UInt8) : Prop where
 len : l'.length = l.length
 le : k ≤ l.length
 small : c ≤ 9
 rest : ∀ j, k ≤ j → l'[j]? = l[j]?
 sum : leVal (l'.take k) + 256 ^ k * c = 10 * leVal (l.take k) + d
theorem MulL.start (l : List UInt8) (d : Nat) (hd : d ≤ 9) : MulL l d 0 d l := ⟨rfl, Nat.zero_le _, hd, fun _ _ => rfl, by simp [leVal]⟩
theorem MulL.step {l l' : List UInt8} {d k c : Nat} (h : MulL l d k c l') (hk : k < l.length) : MulL l d (k + 1) ((l[k].toNat * 10 + c) / 256) (l'.set k (UInt8.ofNat ((l[k].toNat * 10 + c) % 256))) := by
 have hx := byte_lt l[k]
 have hs := h.small
 have hkl : k < l'.length := by rw [h.len]; exact hk
 refine ⟨by simp [h.len], hk, by omega, fun j hj => ?_, ?_⟩
 ·rw [List.getElem?_set_ne (by omega)]
  exact h.rest j (by omega)
 ·rw [take_set_succ hkl, take_succ' hk, leVal_append, leVal_append]
  have h1 := h.sum
  simp only [List.length_take, Nat.min_eq_left (Nat.le_of_lt hk), Nat.min_eq_left (Nat.le_of_lt hkl), leVal, Nat.mul_zero, Nat.add_zero, UInt8.toNat_ofNat']
  rw [show 256 ^ (k + 1) = 256 ^ k * 256 from Nat.pow_succ _ _]
  generalize 256 ^ k = B at h1
  generalize l[k].toNat = x at hx
  have e : (x * 10 + c) % 256 % 2 ^ 8 = (x * 10 + c) % 256 := by omega
  rw [e]
  generalize hq : (x * 10 + c) / 256 = q
  generalize hr : (x * 10 + c) % 256 = r
  have hqr : x * 10 + c = 256 * q + r := by omega
  have e2 : B * 256 * q = B * (256 * q) := Nat.mul_assoc _ _ _
  have e3 : B * r + B * (256 * q) = B * (x * 10) + B * c := by rw [← Nat.mul_add, ← Nat.mul_add, hqr, Nat.add_comm]
  have e4 : 10 * (B * x) = B * (x * 10) := by rw [← Nat.mul_assoc, Nat.mul_comm 10 B, Nat.mul_assoc, Nat.mul_comm 10 x]
  rw [Nat.mul_add, e2, e4]
  omega
theorem MulL.last {l l' : List UInt8} {d c : Nat} (h : MulL l d l.length c l') : leVal (l' ++ (if 0 < c then [UInt8.ofNat c] else [])) = 10 * leVal l + d := by
 have h1 := h.sum
 have h2 := h.small
 rw [← h.len, List.take_length] at h1
 rw [h.len, List.take_length] at h1
 split
 ·rw [leVal_append]
  simp only [leVal, h.len, UInt8.toNat_ofNat']
  rw [show c % 2 ^ 8 = c by omega, Nat.mul_zero, Nat.add_zero]
  exact h1
 ·rw [List.append_nil]
  rw [show c = 0 by omega] at h1
  simpa using h1
/-- The reference turns a number's sign: what its loop keeps. -/
structure NegL (l : List UInt8) (k c : Nat) (l' : List UInt8) : Prop where
 len : l'.length = l.length
 le : k ≤ l.length
 small : c ≤ 1
 rest : ∀ j, k ≤ j → l'[j]? = l[j]?
 sum : leVal (l'.take k) + 256 ^ k * c + leVal (l.take k) = 256 ^ k
theorem NegL.start (l : List UInt8) : NegL l 0 1 l := ⟨rfl, Nat.zero_le _, Nat.le_refl _, fun _ _ => rfl, by simp [leVal]⟩
theorem NegL.step {l l' : List UInt8} {k c : Nat} (h : NegL l k c l') (hk : k < l.length) : NegL l (k + 1) ((255 - l[k].toNat + c) / 256) (l'.set k (UInt8.ofNat ((255 - l[k].toNat + c) % 256))) := by
 have hx := byte_lt l[k]
 have hs := h.small
 have hkl : k < l'.length := by rw [h.len]; exact hk
 refine ⟨by simp [h.len], hk, by omega, fun j hj => ?_, ?_⟩
 ·rw [List.getElem?_set_ne (by omega)]
  exact h.rest j (by omega)
 ·rw [take_set_succ hkl, take_succ' hk, leVal_append, leVal_append]
  have h1 := h.sum
  simp only [List.length_take, Nat.min_eq_left (Nat.le_of_lt hk), Nat.min_eq_left (Nat.le_of_lt hkl), leVal, Nat.mul_zero, Nat.add_zero, UInt8.toNat_ofNat']
  rw [show 256 ^ (k + 1) = 256 ^ k * 256 from Nat.pow_succ _ _]
  generalize 256 ^ k = B at h1
  generalize l[k].toNat = x at hx
  have e : (255 - x + c) % 256 % 2 ^ 8 = (255 - x + c) % 256 := by omega
  rw [e]
  generalize hq : (255 - x + c) / 256 = q
  generalize hr : (255 - x + c) % 256 = r
  have hqr : 255 + c = 256 * q + r + x := by omega
  have e2 : B * 256 * q = B * (256 * q) := Nat.mul_assoc _ _ _
  have e3 : B * 255 + B * c = B * (256 * q) + B * r + B * x := by rw [← Nat.mul_add, hqr, Nat.mul_add, Nat.mul_add]
  rw [e2]
  omega
theorem NegL.last {l l' : List UInt8} {c : Nat} (h : NegL l l.length c l') (h0 : 0 < leVal l) : leVal l' + leVal l = 256 ^ l.length := by
 have h1 := h.sum
 have h2 := h.small
 rw [← h.len, List.take_length] at h1
 rw [h.len, List.take_length] at h1
 have : c = 0 ∨ c = 1 := by omega
 rcases this with rfl | rfl
 ·simpa using h1
 ·rw [Nat.mul_one] at h1
  omega
/-- The number that bytes with one more ahead of them stand for. -/
theorem tc_fill0 (l : List UInt8) : tcVal (0 :: l.reverse) = leVal l := by
 simp [tcVal, beVal, leVal_reverse]
theorem tc_fill255 (l : List UInt8) : tcVal (255 :: l.reverse) = (leVal l : Int) - (256 : Int) ^ l.length := by
 have e : ((256 ^ l.length : Nat) : Int) = (256 : Int) ^ l.length := Int.natCast_pow _ _
 simp only [tcVal, beVal, leVal_reverse, List.length_reverse]
 rw [if_pos (by decide), Int.pow_succ, ← e, Int.natCast_add, Int.natCast_mul]
 simp only [show ((255 : UInt8).toNat : Int) = 255 from rfl]
 omega
/-- A byte that says nothing is left out. -/
theorem tc_drop (a b : UInt8) (r : List UInt8) (h : (a.toNat = 0 ∧ b.toNat < 128) ∨ (a.toNat = 255 ∧ 128 ≤ b.toNat)) : tcVal (a :: b :: r) = tcVal (b :: r) := by
 have e : ((256 ^ r.length : Nat) : Int) = (256 : Int) ^ r.length := Int.natCast_pow _ _
 simp only [tcVal, beVal, List.length_cons, Int.pow_succ, Nat.pow_succ, ← e, Int.natCast_add, Int.natCast_mul]
 generalize (256 ^ r.length : Nat) = B
 rw [show ((256 : Nat) : Int) = 256 from rfl]
 rcases h with ⟨h1, h2⟩ | ⟨h1, h2⟩
 ·rw [h1, if_neg (by omega), if_neg (by omega)]
  simp
 ·rw [h1, if_pos (by omega), if_pos (by omega)]
  simp only [show ((255 : Nat) : Int) = 255 from rfl]
  omega
end Go.Proofs.YtammjbmfiakbnaaGreatDoor
namespace Go.Proofs.YtammjbmfiakbnaaGreatDoor
theorem tc_posB (a : UInt8) (r : List UInt8) (h0 : a.toNat ≠ 0) : tc (beVal (a :: r) : Int) = if 128 ≤ a.toNat then 0 :: a :: r else a :: r := by
 split
 ·refine IsTc.tc_eq ⟨by simp, by simp [tcVal, beVal], ?_⟩
  intro x y t e
  injection e with e1 e2
  injection e2 with e2 e3
  subst e1
  subst e2
  exact ⟨fun h => by omega, fun h => by simp at h⟩
 ·rename_i h
  refine IsTc.tc_eq ⟨by simp, by simp [tcVal, h], ?_⟩
  intro x y t e
  injection e with e1 e2
  subst e1
  exact ⟨fun h => by omega, fun h => by omega⟩
theorem tc_negB (a : UInt8) (r : List UInt8) (h : 128 ≤ a.toNat) (hm : ∀ b t, r = b :: t → ¬ (a.toNat = 255 ∧ 128 ≤ b.toNat)) : tc ((beVal (a :: r) : Int) - (256 : Int) ^ (r.length + 1)) = a :: r := by
 refine IsTc.tc_eq ⟨by simp, by show (beVal (a :: r) : Int) - (if 128 ≤ a.toNat then (256 : Int) ^ (r.length + 1) else 0) = _; rw [if_pos h], ?_⟩
 intro x y t e
 injection e with e1 e2
 subst e1
 exact ⟨fun h' => by omega, hm y t e2⟩
set_option maxRecDepth 4000 in
/-- A negative number's bytes: one byte of ones ahead is taken away. -/
theorem tc_neg (a : UInt8) (r : List UInt8) (m : Nat) (hm : beVal (a :: r) + m = 256 ^ (r.length + 1)) (h2 : 2 * m ≤ 256 ^ (r.length + 1)) (h3 : ∀ q, r.length = q + 1 → 128 * 256 ^ q ≤ m) :
  tc (-(m : Int)) = (match r with
   |b :: _ => if a.toNat = 255 ∧ 128 ≤ b.toNat then r else a :: r
   |[] => a :: r) := by
 have hc : ((256 ^ (r.length + 1) : Nat) : Int) = (256 : Int) ^ (r.length + 1) := Int.natCast_pow _ _
 have hn : (-(m : Int)) = (beVal (a :: r) : Int) - (256 : Int) ^ (r.length + 1) := by
  have e : ((beVal (a :: r) + m : Nat) : Int) = ((256 ^ (r.length + 1) : Nat) : Int) := by rw [hm]
  rw [hc, Int.natCast_add] at e
  generalize (256 : Int) ^ (r.length + 1) = P at e ⊢
  omega
 have hr := beVal_lt r
 have ha : 128 ≤ a.toNat := by
  rcases Nat.lt_or_ge a.toNat 128 with h | h
  ·exfalso
   simp only [beVal] at hm
   rw [Nat.pow_succ] at hm h2
   have : a.toNat * 256 ^ r.length ≤ 127 * 256 ^ r.length := Nat.mul_le_mul_right _ (by omega)
   omega
  ·exact h
 cases r with
 |nil =>
  rw [hn]
  exact tc_negB a [] ha (fun b t e => by cases e)
 |cons b t =>
  show _ = if a.toNat = 255 ∧ 128 ≤ b.toNat then b :: t else a :: b :: t
  split
  ·rename_i hab
   have e1 : tcVal (a :: b :: t) = tcVal (b :: t) := tc_drop a b t (.inr hab)
   have e2 : tcVal (a :: b :: t) = -(m : Int) := by rw [hn]; simp [tcVal, ha]
   refine IsTc.tc_eq ⟨by simp, by rw [← e1, e2], ?_⟩
   intro x y u e
   injection e with e3 e4
   subst e3
   refine ⟨fun h' => by omega, fun ⟨h5, h6⟩ => ?_⟩
   subst e4
   have hq := h3 (u.length + 1) (by simp)
   simp only [beVal, List.length_cons, Nat.pow_succ] at hm hq
   rw [hab.1, h5] at hm
   have h7 : 128 * 256 ^ u.length ≤ y.toNat * 256 ^ u.length := Nat.mul_le_mul_right _ h6
   have hp : 0 < 256 ^ u.length := Nat.pow_pos (by omega)
   generalize 256 ^ u.length = P at *
   omega
  ·rename_i hab
   rw [hn]
   exact tc_negB a (b :: t) ha (fun x u e => by injection e with e1 e2; subst e1; exact hab)
end Go.Proofs.YtammjbmfiakbnaaGreatDoor
namespace Go.Proofs.YtammjbmfiakbnaaGreatDoor
theorem wVal_byte : ∀ (l : List Nat) (k j a : Nat), l[k]? = some a → (∀ x ∈ l, x < 18446744073709551616) → j < 8 → (wVal l / 256 ^ (8 * k + j)) % 256 = (a / 256 ^ j) % 256
 |[], k, j, a, h, _, _ => by simp at h
 |x :: r, 0, j, a, h, hx, hj => by
  simp only [List.getElem?_cons_zero, Option.some.injEq] at h
  subst h
  simp only [wVal, Nat.mul_zero, Nat.zero_add]
  have : j = 0 ∨ j = 1 ∨ j = 2 ∨ j = 3 ∨ j = 4 ∨ j = 5 ∨ j = 6 ∨ j = 7 := by omega
  rcases this with rfl | rfl | rfl | rfl | rfl | rfl | rfl | rfl <;> simp only [Nat.reducePow] <;> omega
 |x :: r, k + 1, j, a, h, hx, hj => by
  have ih := wVal_byte r k j a (by simpa using h) (fun y hy => hx y (by simp [hy])) hj
  have hx0 := hx x (by simp)
  have e : 256 ^ (8 * (k + 1) + j) = 18446744073709551616 * 256 ^ (8 * k + j) := by
   rw [show 8 * (k + 1) + j = 8 + (8 * k + j) by omega, Nat.pow_add]
  rw [e, ← Nat.div_div_eq_div_mul]
  simp only [wVal]
  rw [show (x + 18446744073709551616 * wVal r) / 18446744073709551616 = wVal r by omega]
  exact ih
/-- The loop: so many bytes are written from the end on. -/
structure BytL (W : Nat) (t : Nat) (b : List UInt8) : Prop where
 le : t ≤ b.length
 val : beVal (b.drop (b.length - t)) = W % 256 ^ t
theorem BytL.start (W : Nat) (b : List UInt8) : BytL W 0 b := ⟨Nat.zero_le _, by simp [beVal, Nat.mod_one]⟩
theorem BytL.step {W t : Nat} {b : List UInt8} (h : BytL W t b) (ht : t < b.length) (x : UInt8) (hx : x.toNat = W / 256 ^ t % 256) : BytL W (t + 1) (b.set (b.length - (t + 1)) x) := by
 have hp : 0 < 256 ^ t := Nat.pow_pos (by omega)
 refine ⟨by simp; omega, ?_⟩
 have hk : b.length - (t + 1) < b.length := by omega
 have e1 : (b.set (b.length - (t + 1)) x).drop ((b.set (b.length - (t + 1)) x).length - (t + 1)) = x :: b.drop (b.length - t) := by
  rw [List.length_set, List.drop_eq_getElem_cons (by simp; omega)]
  congr 1
  ·simp
  ·rw [List.drop_set_of_lt (by omega), show b.length - (t + 1) + 1 = b.length - t by omega]
 rw [e1]
 simp only [beVal, List.length_drop]
 rw [show b.length - (b.length - t) = t by have := h.le; omega, h.val, hx, Nat.pow_succ, Nat.mod_mul, Nat.mul_comm, Nat.add_comm]
theorem BytL.last {W : Nat} {b : List UInt8} (h : BytL W b.length b) (hW : W < 256 ^ b.length) : beVal b = W := by
 have := h.val
 rw [Nat.sub_self, List.drop_zero, Nat.mod_eq_of_lt hW] at this
 exact this
theorem wVal_lt : ∀ (l : List Nat), (∀ x ∈ l, x < 18446744073709551616) → wVal l < 256 ^ (8 * l.length)
 |[], _ => by simp [wVal]
 |x :: r, h => by
  have ih := wVal_lt r (fun y hy => h y (by simp [hy]))
  have hx := h x (by simp)
  have e : 256 ^ (8 * (x :: r).length) = 18446744073709551616 * 256 ^ (8 * r.length) := by
   rw [List.length_cons, show 8 * (r.length + 1) = 8 + 8 * r.length by omega, Nat.pow_add]
  rw [e]
  simp only [wVal]
  have : 18446744073709551616 * wVal r + 18446744073709551616 ≤ 18446744073709551616 * 256 ^ (8 * r.length) := by
   have := Nat.mul_le_mul_left 18446744073709551616 (show wVal r + 1 ≤ 256 ^ (8 * r.length) by omega)
   omega
  omega
end Go.Proofs.YtammjbmfiakbnaaGreatDoor
namespace Go.Proofs.YtammjbmfiakbnaaGreatDoor
open Go.RowKit
theorem call_f64bits (b : Nat) (W : World) : (callFunc 30 #[.float .f64 b]).run Tryz.prog W = .ok (.value (.int .u64 b)) W := by
 rw [run_callFunc_extern Tryz.func30 (by kernel_rfl) (by kernel_rfl) (by kernel_rfl) (e := Extern.MathFloatBits.float64bits) (by kernel_rfl)]
 rfl
theorem call_f32bits (b : Nat) (W : World) : (callFunc 31 #[.float .f32 b]).run Tryz.prog W = .ok (.value (.int .u32 b)) W := by
 rw [run_callFunc_extern Tryz.func31 (by kernel_rfl) (by kernel_rfl) (by kernel_rfl) (e := Extern.MathFloatBits.float32bits) (by kernel_rfl)]
 rfl
theorem call_add64 (x y c : Int) (hx : 0 ≤ x) (hy : 0 ≤ y) (hc0 : 0 ≤ c) (hc : c ≤ 1) (W : World) : (callFunc 224 #[.int .u64 x, .int .u64 y, .int .u64 c]).run Tryz.prog W =
  .ok (.value (.tuple #[.int .u64 ((x + y + c) % 18446744073709551616), .int .u64 ((x + y + c) / 18446744073709551616)])) W := by
 rw [run_callFunc_extern Tryz.func224 (by kernel_rfl) (by kernel_rfl) (by kernel_rfl) (e := add64Entry) (by kernel_rfl), run_add64 x y c hx hy hc0 hc]
 rfl
def sub64Ent : Array Value → Sem Value := fun args => do
 let (x, y, b) ← Extern.MathBitsCarry.three "Sub64" args
 pure (Extern.MathBitsCarry.pair ((x + Extern.MathBitsCarry.m64 - y - b) % Extern.MathBitsCarry.m64) (if x < y + b then 1 else 0))
/-- What is borrowed. -/
def bor (x y : Int) : Int := if x < y then 1 else 0
theorem call_sub64 (x y b : Nat) (hy : y < 18446744073709551616) (hb : b ≤ 1) (W : World) : (callFunc 226 #[.int .u64 x, .int .u64 y, .int .u64 b]).run Tryz.prog W =
  .ok (.value (.tuple #[.int .u64 (((x : Int) - y - b) % 18446744073709551616), .int .u64 (bor x (y + b))])) W := by
 rw [run_callFunc_extern Tryz.func226 (by kernel_rfl) (by kernel_rfl) (by kernel_rfl) (e := sub64Ent) (by kernel_rfl)]
 have e1 : (((x + 18446744073709551616 - y - b) % 18446744073709551616 : Nat) : Int) = ((x : Int) - y - b) % 18446744073709551616 := by omega
 have e2 : ((if x < y + b then 1 else 0 : Nat) : Int) = bor x (y + b) := by unfold bor; split <;> split <;> omega
 rw [← e1, ← e2]
 have : b = 0 ∨ b = 1 := by omega
 rcases this with rfl | rfl <;> rfl
#print axioms call_sub64
end Go.Proofs.YtammjbmfiakbnaaGreatDoor
namespace Go.Proofs.YtammjbmfiakbnaaGreatDoor
open Go.RowKit Go.Lib
theorem maskN (a : Nat) (ha : a < 18446744073709551616) : bits .and .u64 (a : Int) 4294967295 = ((a % 4294967296 : Nat) : Int) := by
 have h := bits_and_u64_nat a 4294967295 ha (by omega)
 have e : a &&& 4294967295 = a % 4294967296 := Nat.and_two_pow_sub_one_eq_mod a 32
 rw [e] at h
 exact h
theorem divN (a : Nat) : (a : Int) / 4294967296 = ((a / 4294967296 : Nat) : Int) := by omega
theorem mulN (a b : Nat) : (a : Int) * (b : Int) = ((a * b : Nat) : Int) := (Int.natCast_mul a b).symm
theorem addN (a b : Nat) : (a : Int) + (b : Int) = ((a + b : Nat) : Int) := (Int.natCast_add a b).symm
theorem wrapN (a : Nat) (ha : a < 18446744073709551616) : IntKind.u64.wrap (a : Int) = (a : Int) := by rw [IntKind.wrap_u64]; omega
theorem wrapM (a : Nat) : IntKind.u64.wrap (a : Int) = ((a % 18446744073709551616 : Nat) : Int) := by rw [IntKind.wrap_u64]; omega
set_option maxHeartbeats 1000000 in
theorem mul64_any (x y : Nat) (hx : x < 18446744073709551616) (hy : y < 18446744073709551616) (w : World) :
  Calls Tryz.prog 242 #[.int .u64 x, .int .u64 y] w fun e w' => e = .returned (.tuple #[.int .u64 ((x * y / 18446744073709551616 : Nat) : Int), .int .u64 ((x * y % 18446744073709551616 : Nat) : Int)]) ∧ w' = w := by
 obtain ⟨bd, bt, bw, hhi⟩ := Lib.mul64_hi x y hx hy
 have ba := Lib.half_mul_le (a := x / 4294967296) (b := y / 4294967296) (by omega) (by omega)
 have bb := Lib.half_mul_le (a := x / 4294967296) (b := y % 4294967296) (by omega) (by omega)
 have bc := Lib.half_mul_le (a := x % 4294967296) (b := y / 4294967296) (by omega) (by omega)
 have ba' : x / 4294967296 * (y / 4294967296) < 18446744073709551616 := by omega
 have bb' : x / 4294967296 * (y % 4294967296) < 18446744073709551616 := by omega
 have bc' : x % 4294967296 * (y / 4294967296) < 18446744073709551616 := by omega
 have bh1 : x / 4294967296 * (y / 4294967296) + (x / 4294967296 * (y % 4294967296) + x % 4294967296 * (y % 4294967296) / 4294967296) / 4294967296 < 18446744073709551616 := by omega
 have bh : x / 4294967296 * (y / 4294967296) + (x / 4294967296 * (y % 4294967296) + x % 4294967296 * (y % 4294967296) / 4294967296) / 4294967296 + ((x / 4294967296 * (y % 4294967296) + x % 4294967296 * (y % 4294967296) / 4294967296) % 4294967296 + x % 4294967296 * (y / 4294967296)) / 4294967296 < 18446744073709551616 := by omega
 go_enter Tryz.func242, Tryz.ntmps242
 go_wp2
 simp only [maskN x hx, maskN y hy, divN, mulN, addN, wrapN _ bd, wrapN _ bb', wrapN _ bt, maskN _ bt, wrapN _ bc', wrapN _ bw, wrapN _ ba', wrapN _ bh1, wrapN _ bh, wrapM (x * y)]
 rw [hhi]
 go_ret2
 exact ⟨rfl, rfl⟩
theorem mul_any (x y : Nat) (hx : x < 18446744073709551616) (hy : y < 18446744073709551616) (w : World) :
  Calls Tryz.prog 238 #[.int .u64 x, .int .u64 y] w fun e w' => e = .returned (.tuple #[.int .u64 ((x * y / 18446744073709551616 : Nat) : Int), .int .u64 ((x * y % 18446744073709551616 : Nat) : Int)]) ∧ w' = w := by
 have c64 := mul64_any x y hx hy w
 go_enter Tryz.func238, Tryz.ntmps238
 go_wp2_with fail
 refine c64.mono ?_
 rintro e w' ⟨rfl, rfl⟩
 go_wp2_with fail
 go_ret2
 exact ⟨rfl, rfl⟩
theorem addc_any (x y : Nat) (w : World) :
  Calls Tryz.prog 214 #[.int .u64 x, .int .u64 y, .int .u64 0] w fun e w' => e = .returned (.tuple #[.int .u64 (((x + y) % 18446744073709551616 : Nat) : Int), .int .u64 (((x + y) / 18446744073709551616 : Nat) : Int)]) ∧ w' = w := by
 have h := fun W => call_add64 x y 0 (by omega) (by omega) (by omega) (by omega) W
 have e1 : ((x : Int) + y + 0) % 18446744073709551616 = (((x + y) % 18446744073709551616 : Nat) : Int) := by omega
 have e2 : ((x : Int) + y + 0) / 18446744073709551616 = (((x + y) / 18446744073709551616 : Nat) : Int) := by omega
 rw [e1, e2] at h
 go_enter Tryz.func214, Tryz.ntmps214
 go_wp2_with fail
 go_ret2
 exact ⟨rfl, rfl⟩
theorem mulAdd_any (x y c : Nat) (hx : x < 18446744073709551616) (hy : y < 18446744073709551616) (hc : c < 18446744073709551616) (w : World) :
  Calls Tryz.prog 233 #[.int .u64 x, .int .u64 y, .int .u64 c] w fun e w' => e = .returned (.tuple #[.int .u64 (((x * y + c) / 18446744073709551616 : Nat) : Int), .int .u64 (((x * y + c) % 18446744073709551616 : Nat) : Int)]) ∧ w' = w := by
 have hm := mul_any x y hx hy w
 have hp : x * y ≤ 18446744073709551615 * 18446744073709551615 := Nat.mul_le_mul (by omega) (by omega)
 generalize x * y = p at hm hp ⊢
 have ha := addc_any (p % 18446744073709551616) c w
 have hb : p / 18446744073709551616 + (p % 18446744073709551616 + c) / 18446744073709551616 < 18446744073709551616 := by omega
 have e1 : p / 18446744073709551616 + (p % 18446744073709551616 + c) / 18446744073709551616 = (p + c) / 18446744073709551616 := by omega
 have e2 : (p % 18446744073709551616 + c) % 18446744073709551616 = (p + c) % 18446744073709551616 := by omega
 generalize hu : p % 18446744073709551616 = u at hm ha hb e1 e2
 generalize hv : p / 18446744073709551616 = v at hm hb e1
 rw [e2] at ha
 go_enter Tryz.func233, Tryz.ntmps233
 go_wp2_with fail
 refine hm.mono ?_
 rintro e w' ⟨rfl, rfl⟩
 go_wp2_with fail
 refine ha.mono ?_
 rintro e w' ⟨rfl, rfl⟩
 generalize hz : (u + c) / 18446744073709551616 = z at hb e1
 go_wp2_with fail
 go_ret2
 refine ⟨?_, rfl⟩
 rw [← e1]
 rfl
end Go.Proofs.YtammjbmfiakbnaaGreatDoor
namespace Go.Proofs.YtammjbmfiakbnaaGreatDoor
open Go.RowKit
set_option maxRecDepth 100000 in
theorem win_32 (n : Int) (w : World) : Calls Tryz.prog 41 #[.int .i64 n, .int .i64 32] w (AnsQ (fun b => b = true → -2147483648 ≤ n ∧ n ≤ 2147483647) w) := by
 by_cases h1 : -2147483648 ≤ n
 ·by_cases h2 : n ≤ 2147483647
  ·go_enter Tryz.func41, Tryz.ntmps41
   go_wp2
   go_ret
   exact AnsQ.mk (fun _ => ⟨h1, h2⟩)
  ·go_enter Tryz.func41, Tryz.ntmps41
   go_wp2
   go_ret
   exact AnsQ.mk (by simp)
 ·go_enter Tryz.func41, Tryz.ntmps41
  go_wp2
  go_ret
  exact AnsQ.mk (by simp)
set_option maxRecDepth 100000 in
theorem win_16 (n : Int) (w : World) : Calls Tryz.prog 41 #[.int .i64 n, .int .i64 16] w (AnsQ (fun b => b = true → -32768 ≤ n ∧ n ≤ 32767) w) := by
 by_cases h1 : -32768 ≤ n
 ·by_cases h2 : n ≤ 32767
  ·go_enter Tryz.func41, Tryz.ntmps41
   go_wp2
   go_ret
   exact AnsQ.mk (fun _ => ⟨h1, h2⟩)
  ·go_enter Tryz.func41, Tryz.ntmps41
   go_wp2
   go_ret
   exact AnsQ.mk (by simp)
 ·go_enter Tryz.func41, Tryz.ntmps41
  go_wp2
  go_ret
  exact AnsQ.mk (by simp)
set_option maxRecDepth 100000 in
theorem win_8 (n : Int) (w : World) : Calls Tryz.prog 41 #[.int .i64 n, .int .i64 8] w (AnsQ (fun b => b = true → -128 ≤ n ∧ n ≤ 127) w) := by
 by_cases h1 : -128 ≤ n
 ·by_cases h2 : n ≤ 127
  ·go_enter Tryz.func41, Tryz.ntmps41
   go_wp2
   go_ret
   exact AnsQ.mk (fun _ => ⟨h1, h2⟩)
  ·go_enter Tryz.func41, Tryz.ntmps41
   go_wp2
   go_ret
   exact AnsQ.mk (by simp)
 ·go_enter Tryz.func41, Tryz.ntmps41
  go_wp2
  go_ret
  exact AnsQ.mk (by simp)
/-- The bytes of a text. -/
abbrev chs (s : ByteArray) : List UInt8 := s.data.toList
/-- A whole number's digits: no more than forty; not empty; each is a digit; no nought ahead, but for 0 itself. -/
def Dig (l : List UInt8) : Prop := l ≠ [] ∧ l.length ≤ 40 ∧ (∀ c ∈ l, 48 ≤ c.toNat ∧ c.toNat ≤ 57) ∧ (l.head? ≠ some 48 ∨ l = [48])
/-- A whole number's text. -/
def DigS (l : List UInt8) : Prop := Dig l ∨ ∃ r, l = 45 :: r ∧ Dig r ∧ r ≠ [48]
theorem chs_eq (s : ByteArray) : chs s = s.toList := (ByteArray.toList_eq s).symm
theorem chs_extract (s : ByteArray) (h : 0 < s.size) : chs s = s[0] :: chs (s.extract 1 s.size) := by
 have e : chs (s.extract 1 s.size) = (chs s).drop 1 := by
  simp only [chs, ByteArray.data_extract, Array.toList_extract, List.extract_eq_take_drop]
  rw [List.take_of_length_le]
  simp
 rw [e]
 have hl : 0 < (chs s).length := by simpa using h
 rw [show s[0] = (chs s)[0] from rfl]
 exact (List.getElem_cons_drop hl).symm
set_option maxRecDepth 100000 in
set_option maxHeartbeats 800000 in
theorem digits_any (s : ByteArray) (hs : s.size ≤ 140737488351232) (w : World) : Calls Tryz.prog 43 #[.string s] w (AnsQ (fun b => b = true → DigS (chs s)) w) := by
 by_cases h0 : s.toList = []
 ·have hsz : s.size = 0 := by
   have : (chs s).length = 0 := by rw [chs, ← ByteArray.toList_eq, h0]; rfl
   simpa using this
  go_enter Tryz.func43, Tryz.ntmps43
  go_wp2
  go_loop [3, 17] (fun _ v => v = .int .i64 0) (fun _ v => 0)
  case atStart => rfl
  case round =>
   subst hrel
   go_wp2
   go_ret
   exact AnsQ.mk (by simp)
 ·have h0' : s.toList.isEmpty = false := by simp [h0]
  have hpos : 0 < s.size := by
   rcases Nat.eq_zero_or_pos s.size with h | h
   ·exact absurd (by rw [ByteArray.toList_eq]; exact List.eq_nil_of_length_eq_zero (by simpa using h)) h0
   ·exact h
  by_cases h1 : (s[0].toNat : Int) = 45
  ·have h1' : ((s[0].toNat : Int) == 45) = true := by simp [h1]
   have hch := chs_extract s hpos
   have h45 : s[0] = 45 := by
    apply UInt8.toNat_inj.1
    show s[0].toNat = 45
    omega
   rw [h45] at hch
   have hu : (s.extract 1 s.size).size ≤ 140737488351232 := by
    have : (chs s).length = (chs (s.extract 1 s.size)).length + 1 := by rw [hch]; rfl
    simp only [chs, Array.length_toList] at this
    have e1 : s.data.size = s.size := rfl
    have e2 : (s.extract 1 s.size).data.size = (s.extract 1 s.size).size := rfl
    omega
   have Hch := Lib.hid hch
   clear h1 hch h45
   go_enter Tryz.func43, Tryz.ntmps43
   by_cases hz : (s.extract 1 s.size).toList = [48]
   ·have hz' : ((s.extract 1 s.size).toList == [48]) = true := by simp [hz]
    go_wp2
    go_ret
    exact AnsQ.mk (by simp)
   ·have hz' : ((s.extract 1 s.size).toList == [48]) = false := by simp [hz]
    have Hz := Lib.hid hz
    clear hz
    go_wp2
    rw [show s.size - 1 = (s.extract 1 s.size).size by simp]
    generalize s.extract 1 s.size = u at *
    go_loop [3, 17] (fun _ v => ∃ i : Nat, i ≤ u.size ∧ v = .int .i64 i ∧ Hid (∀ (j : Nat) (h : j < u.size), j < i → 48 ≤ u[j].toNat ∧ u[j].toNat ≤ 57)) (fun _ v => u.size - (intOf v).toNat)
    case atStart => exact ⟨0, Nat.zero_le _, rfl, Lib.hid (fun j h hj => by omega)⟩
    case round =>
     obtain ⟨i, hi, rfl, Hd⟩ := hrel
     by_cases hlt : i < u.size
     ·by_cases c1 : (u[i].toNat : Int) < 48
      ·go_wp2
       go_ret
       exact AnsQ.mk (by simp)
      ·by_cases c2 : (57 : Int) < u[i].toNat
       ·go_wp2
        go_ret
        exact AnsQ.mk (by simp)
       ·go_wp2
        go_round
        case rel =>
         refine ⟨i + 1, by omega, by go_num, Lib.hid (fun j h hj => ?_)⟩
         by_cases hji : j = i
         ·subst hji
          omega
         ·exact Hd.out j h (by omega)
        case measure => simp [intOf]; omega
     ·have hall : ∀ c ∈ chs u, 48 ≤ c.toNat ∧ c.toNat ≤ 57 := fun c hc => by
       obtain ⟨j, hj, rfl⟩ := List.mem_iff_getElem.1 hc
       exact Hd.out j (by simpa using hj) (by have : j < u.size := (by simpa using hj); omega)
      have Hall := Lib.hid hall
      clear hall Hd
      by_cases e0 : u.toList = []
      ·go_wp2
       go_ret
       exact AnsQ.mk (by simp)
      ·have e0' : u.toList.isEmpty = false := by simp [e0]
       have hpos : 0 < u.size := by
        rcases Nat.eq_zero_or_pos u.size with h | h
        ·exact absurd (by rw [ByteArray.toList_eq]; exact List.eq_nil_of_length_eq_zero (by simpa using h)) e0
        ·exact h
       by_cases e1 : (u.size : Int) ≤ 40
       ·by_cases e2 : (u[0].toNat : Int) = 48
        ·have e2' : ((u[0].toNat : Int) != 48) = false := by simp [e2]
         clear e2
         by_cases e3 : u.toList = [48]
         ·have e3' : (u.toList == [48]) = true := by simp [e3]
          have HD : Hid (Dig (chs u)) := Lib.hid ⟨by rw [chs_eq]; exact e0, by simpa using (show u.size ≤ 40 by omega), Hall.out, .inr (by rw [chs_eq]; exact e3)⟩
          clear e3
          go_wp2
          go_ret
          exact AnsQ.mk (fun _ => .inr ⟨chs u, Hch.out, HD.out, by rw [chs_eq]; exact Hz.out⟩)
         ·have e3' : (u.toList == [48]) = false := by simp [e3]
          clear e3
          go_wp2
          go_ret
          exact AnsQ.mk (by simp)
        ·have e2' : ((u[0].toNat : Int) != 48) = true := by simp [e2]
         have HD : Hid (Dig (chs u)) := Lib.hid ⟨by rw [chs_eq]; exact e0, by simpa using (show u.size ≤ 40 by omega), Hall.out, .inl (by
          intro e
          have hl : (chs u)[0]? = some u[0] := by
           rw [List.getElem?_eq_getElem (by simpa using hpos)]
           rfl
          rw [List.head?_eq_getElem?, hl] at e
          injection e with e
          rw [e] at e2
          exact e2 rfl)⟩
         clear e2
         go_wp2
         go_ret
         exact AnsQ.mk (fun _ => .inr ⟨chs u, Hch.out, HD.out, by rw [chs_eq]; exact Hz.out⟩)
       ·go_wp2
        go_ret
        exact AnsQ.mk (by simp)
  ·have h1' : ((s[0].toNat : Int) == 45) = false := by simp [h1]
   clear h1
   obtain ⟨u, hu⟩ : ∃ u, u = s := ⟨s, rfl⟩
   subst hu
   go_enter Tryz.func43, Tryz.ntmps43
   go_wp2
   go_loop [3, 17] (fun _ v => ∃ i : Nat, i ≤ u.size ∧ v = .int .i64 i ∧ Hid (∀ (j : Nat) (h : j < u.size), j < i → 48 ≤ u[j].toNat ∧ u[j].toNat ≤ 57)) (fun _ v => u.size - (intOf v).toNat)
   case atStart => exact ⟨0, Nat.zero_le _, rfl, Lib.hid (fun j h hj => by omega)⟩
   case round =>
    obtain ⟨i, hi, rfl, Hd⟩ := hrel
    by_cases hlt : i < u.size
    ·by_cases c1 : (u[i].toNat : Int) < 48
     ·go_wp2
      go_ret
      exact AnsQ.mk (by simp)
     ·by_cases c2 : (57 : Int) < u[i].toNat
      ·go_wp2
       go_ret
       exact AnsQ.mk (by simp)
      ·go_wp2
       go_round
       case rel =>
        refine ⟨i + 1, by omega, by go_num, Lib.hid (fun j h hj => ?_)⟩
        by_cases hji : j = i
        ·subst hji
         omega
        ·exact Hd.out j h (by omega)
       case measure => simp [intOf]; omega
    ·have hall : ∀ c ∈ chs u, 48 ≤ c.toNat ∧ c.toNat ≤ 57 := fun c hc => by
      obtain ⟨j, hj, rfl⟩ := List.mem_iff_getElem.1 hc
      exact Hd.out j (by simpa using hj) (by have : j < u.size := (by simpa using hj); omega)
     have Hall := Lib.hid hall
     clear hall Hd
     by_cases e0 : u.toList = []
     ·go_wp2
      go_ret
      exact AnsQ.mk (by simp)
     ·have e0' : u.toList.isEmpty = false := by simp [e0]
      have hpos : 0 < u.size := by
       rcases Nat.eq_zero_or_pos u.size with h | h
       ·exact absurd (by rw [ByteArray.toList_eq]; exact List.eq_nil_of_length_eq_zero (by simpa using h)) e0
       ·exact h
      by_cases e1 : (u.size : Int) ≤ 40
      ·by_cases e2 : (u[0].toNat : Int) = 48
       ·have e2' : ((u[0].toNat : Int) != 48) = false := by simp [e2]
        clear e2
        by_cases e3 : u.toList = [48]
        ·have e3' : (u.toList == [48]) = true := by simp [e3]
         have HD : Hid (Dig (chs u)) := Lib.hid ⟨by rw [chs_eq]; exact e0, by simpa using (show u.size ≤ 40 by omega), Hall.out, .inr (by rw [chs_eq]; exact e3)⟩
         clear e3
         go_wp2
         go_ret
         exact AnsQ.mk (fun _ => .inl HD.out)
        ·have e3' : (u.toList == [48]) = false := by simp [e3]
         clear e3
         go_wp2
         go_ret
         exact AnsQ.mk (by simp)
       ·have e2' : ((u[0].toNat : Int) != 48) = true := by simp [e2]
        have HD : Hid (Dig (chs u)) := Lib.hid ⟨by rw [chs_eq]; exact e0, by simpa using (show u.size ≤ 40 by omega), Hall.out, .inl (by
         intro e
         have hl : (chs u)[0]? = some u[0] := by
          rw [List.getElem?_eq_getElem (by simpa using hpos)]
          rfl
         rw [List.head?_eq_getElem?, hl] at e
         injection e with e
         rw [e] at e2
         exact e2 rfl)⟩
        clear e2
        go_wp2
        go_ret
        exact AnsQ.mk (fun _ => .inl HD.out)
      ·go_wp2
       go_ret
       exact AnsQ.mk (by simp)
end Go.Proofs.YtammjbmfiakbnaaGreatDoor
