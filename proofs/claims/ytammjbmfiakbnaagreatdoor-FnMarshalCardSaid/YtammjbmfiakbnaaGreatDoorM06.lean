/- A part of the proof that the card of laws.FnMarshal holds. No conditions. -/
import Derived.Test.YtammjbmfiakbnaaGreatDoorM05
import Derived.Deep.QuietTactic
import Derived.BigQuiet
import Derived.LaidEql
import Derived.Test.YtammjbmfiakbnaaGreatDoorM03
import Derived.Test.YtammjbmfiakbnaaGreatDoorM04
import Derived.Laws.IdiomCopy
import Derived.Deep.RegionWith
set_option linter.unusedSimpArgs false
set_option linter.unusedVariables false
namespace Go.Proofs.YtammjbmfiakbnaaGreatDoor
open Go.RowKit
theorem info291n : (Tryz.prog.info? 291).map (fun i => decide (i.size ≠ 0)) = some true := by kernel_rfl
theorem run_neq_wptr (w : World) {a b : Addr} {ca cb : Array Value} {ta tb : TypeId} (hne : a ≠ b) (ha : w.heap[a.block]? = some (.cells ca ta (0, 0))) (hb : w.heap[b.block]? = some (.cells cb tb (0, 0))) :
  (binOp .neq 322 (.pointer (some a)) (.pointer (some b))).run Tryz.prog w = .ok (.bool true) w := by
 obtain ⟨j, hte, hsz⟩ := Option.map_eq_some_iff.1 info291n
 have hsz : j.size ≠ 0 := by simpa using hsz
 have h : ∀ d : Nat, (Op.equalIn (d + 1) 322 (.pointer (some a)) (.pointer (some b))).run Tryz.prog w = .ok false w := fun d => by
  simp [Op.equalIn, run_underlying Tryz.underlying322, sizeOf, typeInfo, hte, hsz, run_sameAddr_other w hne ha hb]
 simp only [binOp]
 simp [Op.equal, Op.maxDepth, h 9999]
set_option maxRecDepth 100000 in
theorem subvw1_any (gz oz cz gx ox cx x c : Nat) (za xa : Array Value) (tz tx : TypeId) (zv : Value) (hx : x < 18446744073709551616) (hc : c ≤ 1) (hcx : c ≤ x) (hcz : 1 ≤ cz ∧ cz ≤ 9223372036854775807) (hcc : 1 ≤ cx ∧ cx ≤ 9223372036854775807) (hne : gx ≠ gz) (w : World)
  (hX : Blk w gx tx xa) (hZ : Blk w gz tz za) (hxc : w.cell? ⟨gx, ox, none⟩ = some (wd x)) (hzc : w.cell? ⟨gz, oz, none⟩ = some zv) :
  Calls Tryz.prog 189 #[.slice (some ⟨gz, oz, none⟩) 1 cz, .slice (some ⟨gx, ox, none⟩) 1 cx, .int .u64 c] w fun e w' => e = .returned (.int .u64 0) ∧ ∃ q, w' = (w.setCell ⟨gz, oz, none⟩ (wd (x - c))).drewN q := by
 have hcp : ∀ (d a : Option Addr) (c1 c2 : Nat) ty W, (Builtin.copy_ #[111, 111] ty #[.slice d 0 c1, .slice a 0 c2]).run Tryz.prog W = .ok (goInt 0) W := fun d a c1 c2 ty W => run_copy_none W 111 111 ty 291 d a 0 c1 0 c2 Tryz.underlying111 size291 rfl
 have hs := fun W => subc_any x c 0 hx (by omega) (by omega) W
 have hf := hZ.frozen oz
 obtain ⟨hcz1, hcz2⟩ := hcz
 obtain ⟨hcc1, hcc2⟩ := hcc
 have HX := Lib.hid hX
 have HZ := Lib.hid hZ
 have Hs := Lib.hid hs
 clear hX hZ hs
 go_enter Tryz.func189, Tryz.ntmps189
 go_wp2_with fail
 refine (Hs.out w).mono ?_
 rintro e w1 ⟨t, b, rfl, ht, hb, he, rfl⟩
 obtain rfl : b = 0 := by omega
 obtain rfl : t = x - c := by omega
 clear he ht hb hxc
 go_wp2_with fail
 generalize hW : World.setCell _ _ _ = W
 have hW' : Blk W gx tx xa ∧ ∃ za', Blk W gz tz za' := by
  rw [← hW]
  exact ⟨HX.out.off hne _, _, HZ.out.set_ _ _⟩
 obtain ⟨hX1, za', hZ1⟩ := hW'
 have hq := fun n => run_neq_wptr (W.drewN n) (a := ⟨gz, oz, none⟩) (b := ⟨gx, ox, none⟩) (by intro e; injection e with e; exact hne e.symm) hZ1 hX1
 clear hX1 hZ1 hzc hf
 go_quiet (fail)
 go_wp2_with fail
 go_region
 all_goals go_wp2_with fail
 all_goals
  go_ret
  exact ⟨rfl, _, rfl⟩
set_option maxRecDepth 100000 in
set_option maxHeartbeats 2000000 in
/-- One number less another, into a new row. -/
theorem nsub_any (x y : List Nat) (gx cx gy oy cy : Nat) (xa : Array Value) (tx : TypeId) (hy0 : 1 ≤ y.length) (hlen : x.length = y.length ∨ x.length = y.length + 1) (hl : x.length ≤ 1000) (hx : ∀ a ∈ x, a < 18446744073709551616) (hy : ∀ a ∈ y, a < 18446744073709551616)
  (hle : wVal y ≤ wVal x) (hcx : x.length ≤ cx ∧ cx ≤ 9223372036854775807) (hcy : y.length ≤ cy ∧ cy ≤ 9223372036854775807) (w : World) (hX : Blk w gx tx xa) (hgy : gy < w.heap.size)
  (hxs : ∀ j a, x[j]? = some a → w.cell? ⟨gx, j, none⟩ = some (wd a)) (hys : ∀ j a, y[j]? = some a → w.cell? ⟨gy, oy + j, none⟩ = some (wd a)) :
  Calls Tryz.prog 146 #[.slice none 0 0, .slice (some ⟨gx, 0, none⟩) x.length cx, .slice (some ⟨gy, oy, none⟩) y.length cy] w
   fun e w' => ∃ v' l', e = .returned v' ∧ NatW w' w.heap.size v' l' ∧ wVal l' + wVal y = wVal x ∧ l'.length ≤ x.length ∧ Ext w w' := by
 have hm := make_any none 0 0 x.length (Nat.le_refl _) (by unfold maxLen; omega) (fun h => by omega) (by omega) (by omega) w
 have hgx := hX.lt
 obtain ⟨hcx1, hcx2⟩ := hcx
 obtain ⟨hcy1, hcy2⟩ := hcy
 have HXB := Lib.hid hX
 have HXS := Lib.hid hxs
 have HYS := Lib.hid hys
 have HXW := Lib.hid hx
 have HYW := Lib.hid hy
 have Hle := Lib.hid hle
 have Hm := Lib.hid hm
 have hexn : ∃ n, n = y.length := ⟨_, rfl⟩
 obtain ⟨n, hn⟩ := hexn
 have HN := Lib.hid hn
 rw [← hn] at hlen hy0 hcy1 ⊢
 clear hX hxs hys hx hy hle hm hn
 rcases hlen with hxl | hxl
 ·have HXL := Lib.hid hxl
  rw [hxl] at hl hcx1 Hm ⊢
  have hn0 : ((n : Int) == 0) = false := beq_eq_false_iff_ne.2 (by omega)
  clear hxl
  go_enter Tryz.func146, Tryz.ntmps146
  go_wp2_with fail
  refine Hm.out.mono ?_
  rintro e w1 ⟨v1, rfl, hq⟩
  rcases hq with ⟨h1, -⟩ | ⟨-, c', h2, h3, rfl, rfl⟩
  ·omega
  have hown := mk_words_own (w0 := w) (W := w) (Nat.le_refl _) n c' h2 h3
  have hcall := subv_any x y n (by omega) HXW.out HYW.out (by rw [HXL.out]; exact Nat.le_refl _) (by rw [← HN.out]; exact Nat.le_refl _) w.heap.size w.heap.size c' c' gx 0 cx gy oy cy n (List.replicate n 0) (w.alloc (.cells (madeCells #[wd 0] c') 291)).drew hown (Nat.le_refl _) (by omega) (by omega)
   (fun j a _ ha => by rw [Nat.zero_add]; exact ((Ext.refl w).alloc _).cellS (HXS.out j a ha)) (fun j a _ ha => ((Ext.refl w).alloc _).cellS (HYS.out j a ha))
  have Hcall := Lib.hid hcall
  clear hown hcall
  go_wp2_with fail
  go_region_with (refine Hcall.out.mono ?_; rintro e w2 ⟨c, L', rfl, hM, ho2, hf⟩)
  have hL'l : L'.length = n := by rw [hM.len]; simp
  have hsum := hM.sum
  have hwF := hM.words
  have hc1 := hM.small
  have hxt : x.take n = x := List.take_of_length_le (by rw [HXL.out]; exact Nat.le_refl _)
  have hyt : y.take n = y := List.take_of_length_le (by rw [← HN.out]; exact Nat.le_refl _)
  have hLt : L'.take n = L' := List.take_of_length_le (by rw [hL'l]; exact Nat.le_refl _)
  rw [hxt, hyt, hLt] at hsum
  rw [hLt] at hwF
  have hlt := wVal_lt64 L' hwF
  rw [hL'l] at hlt
  have hle := Hle.out
  obtain rfl : c = 0 := by
   rcases (show c = 0 ∨ c = 1 by omega) with h | h
   ·exact h
   ·subst h
    rw [Nat.mul_one] at hsum
    generalize 18446744073709551616 ^ n = B at *
    omega
  rw [Nat.mul_zero, Nat.add_zero] at hsum
  have hnrm := norm_any L' (by rw [hL'l]; omega) w.heap.size (.slice (some ⟨w.heap.size, 0, none⟩) n c') w2 (by rw [hL'l]; exact ho2) hwF
  have Hnrm := Lib.hid hnrm
  have Hval := Lib.hid hsum
  have HL := Lib.hid hL'l
  have HE := Lib.hid (hf.ext ((Ext.refl w).alloc _).drew (Nat.le_refl _))
  clear hnrm hsum hwF hM ho2 hf hxt hyt hLt hlt hle hL'l
  go_wp2_with fail
  refine Hnrm.out.mono ?_
  rintro e w3 ⟨v3, l3, rfl, k1, k2, k3, rfl, k4⟩
  have K1 := Lib.hid k1
  clear k1
  go_wp2_with fail
  go_ret
  exact ⟨_, l3, rfl, K1.out, by rw [k2, Hval.out], by have := HL.out; omega, HE.out⟩
 ·have HXL := Lib.hid hxl
  rw [hxl] at hl hcx1 Hm ⊢
  have hn0 : ((n : Int) == 0) = false := beq_eq_false_iff_ne.2 (by omega)
  obtain ⟨a, ha⟩ : ∃ a, x[n]? = some a := ⟨_, List.getElem?_eq_getElem (by omega)⟩
  have Ha := Lib.hid ha
  clear hxl ha
  have hnn : ((n + 1 : Nat) : Int) = (n : Int) + 1 := by omega
  rw [hnn] at Hm
  go_enter Tryz.func146, Tryz.ntmps146
  go_wp2_with fail
  refine Hm.out.mono ?_
  rintro e w1 ⟨v1, rfl, hq⟩
  rcases hq with ⟨h1, -⟩ | ⟨-, c', h2, h3, rfl, rfl⟩
  ·omega
  have hown := mk_words_own (w0 := w) (W := w) (Nat.le_refl _) (n + 1) c' h2 h3
  have hcall := subv_any x y n (by omega) HXW.out HYW.out (by rw [HXL.out]; omega) (by rw [← HN.out]; exact Nat.le_refl _) w.heap.size w.heap.size c' c' gx 0 cx gy oy cy (n + 1) (List.replicate (n + 1) 0) (w.alloc (.cells (madeCells #[wd 0] c') 291)).drew hown (by omega) (by omega) (by omega)
   (fun j a _ ha => by rw [Nat.zero_add]; exact ((Ext.refl w).alloc _).cellS (HXS.out j a ha)) (fun j a _ ha => ((Ext.refl w).alloc _).cellS (HYS.out j a ha))
  have Hcall := Lib.hid hcall
  have hc'n : n ≤ c' := by omega
  clear hown hcall
  go_wp2_with fail
  go_region_with (refine Hcall.out.mono ?_; rintro e w2 ⟨c, L', rfl, hM, ho2, hf⟩)
  have hL'l : L'.length = n + 1 := by rw [hM.len]; simp
  have hsum := hM.sum
  have hwF := hM.words
  have hc1 := hM.small
  have hxa : x = x.take n ++ [a] := by
   have e1 := take_succN (l := x) (k := n) (by rw [HXL.out]; omega)
   have e2 : x[n]'(by rw [HXL.out]; omega) = a := (List.getElem?_eq_some_iff.1 Ha.out).2
   rw [e2, List.take_of_length_le (by rw [HXL.out]; exact Nat.le_refl _)] at e1
   exact e1
  have hyt : y.take n = y := List.take_of_length_le (by rw [← HN.out]; exact Nat.le_refl _)
  have hxv : wVal x = wVal (x.take n) + 18446744073709551616 ^ n * a := by
   conv => lhs; rw [hxa]
   rw [wVal_append]
   simp only [wVal, Nat.mul_zero, Nat.add_zero, List.length_take, Nat.min_eq_left (show n ≤ x.length by rw [HXL.out]; omega)]
  rw [hyt] at hsum
  have hlt := wVal_lt64 (L'.take n) hwF
  rw [List.length_take, Nat.min_eq_left (show n ≤ L'.length by omega)] at hlt
  have hle := Hle.out
  have hca : c ≤ a := by
   rcases (show c = 0 ∨ c = 1 by omega) with h | h
   ·omega
   ·subst h
    rcases Nat.eq_zero_or_pos a with h | h
    ·subst h
     rw [Nat.mul_one] at hsum
     rw [Nat.mul_zero] at hxv
     generalize 18446744073709551616 ^ n = B at *
     omega
    ·omega
  have haw : a < 18446744073709551616 := HXW.out a (List.mem_of_getElem? Ha.out)
  obtain ⟨q, hq⟩ : ∃ q, L'[n]? = some q := ⟨_, List.getElem?_eq_getElem (by omega)⟩
  have hzc := (own_get ho2 (wd_at hq)).1
  have hbw := (HXB.out.alloc (.cells (madeCells #[wd 0] c') 291)).drew
  have hb2 := hf.blk (by omega) hbw
  have hxc := (hb2.cell n).trans ((hbw.cell n).symm.trans (((Ext.refl w).alloc _).cellS (HXS.out n a Ha.out)))
  obtain ⟨za, hZ⟩ : ∃ za, Blk w2 w.heap.size 291 za := by
   rcases ho2.2 with ⟨h, _⟩ | ⟨g', cap, cur, hv, _, hg, _⟩
   ·cases h
   ·injection hv with hv; injection hv with hv; injection hv with hv; subst hv
    exact ⟨_, hg⟩
  have hcall2 := subvw1_any w.heap.size n (c' - n) gx n (cx - n) a c za xa 291 tx (wd q) haw hc1 hca ⟨by omega, by omega⟩ ⟨by omega, by omega⟩ (by omega) w2.drew hb2.drew hZ.drew hxc hzc
  have hoF := own_set ho2 (k := n) (by omega) (wd (a - c))
  rw [← List.map_set] at hoF
  have hlF : (L'.set n (a - c)).length = n + 1 := by simp [hL'l]
  have htF : L'.set n (a - c) = L'.take n ++ [a - c] := by
   have := take_set_succN (l := L') (k := n) (by omega) (a - c)
   rwa [List.take_of_length_le (by rw [hlF]; exact Nat.le_refl _)] at this
  have hwL : ∀ v ∈ L'.set n (a - c), v < 18446744073709551616 := fun v hv => by
   rw [htF] at hv
   rcases List.mem_append.1 hv with hv | hv
   ·exact hwF v hv
   ·simp at hv; omega
  have hval : wVal (L'.set n (a - c)) + wVal y = wVal x := by
   rw [htF, wVal_append, hxv, List.length_take, Nat.min_eq_left (show n ≤ L'.length by omega)]
   simp only [wVal, Nat.mul_zero, Nat.add_zero]
   have e1 : 18446744073709551616 ^ n * a = 18446744073709551616 ^ n * (a - c) + 18446744073709551616 ^ n * c := by rw [← Nat.mul_add]; congr 1; omega
   rw [e1]
   omega
  have hFr := hf.set (o := n) (wd (a - c))
  have Hcall2 := Lib.hid hcall2
  have HoF := Lib.hid hoF
  have HwL := Lib.hid hwL
  have HlF := Lib.hid hlF
  have Hval := Lib.hid hval
  have HE := Lib.hid (hFr.ext ((Ext.refl w).alloc _).drew (Nat.le_refl _))
  generalize L'.set n (a - c) = LF at HoF HwL HlF Hval
  generalize a - c = ac at Hcall2 HoF HE
  clear hsum hwF hc1 hxa hyt hxv hlt hle hca hM ho2 hf hq hzc hbw hb2 hxc hZ hcall2 hoF hlF htF hwL hval hFr hL'l
  have q1 : ¬ c' = n := by omega
  have q2 : ¬ cx = n := by omega
  go_wp2_with fail
  go_region_with (refine Hcall2.out.mono ?_; rintro e w3 ⟨rfl, qn, rfl⟩)
  have hnrm := fun k => norm_any LF (by rw [HlF.out]; omega) w.heap.size (.slice (some ⟨w.heap.size, 0, none⟩) (n + 1) c') ((w2.setCell ⟨w.heap.size, n, none⟩ (wd ac)).drewN k) (by rw [HlF.out]; exact HoF.out) HwL.out
  have Hnrm := Lib.hid hnrm
  clear hnrm
  go_wp2_with fail
  refine (Hnrm.out _).mono ?_
  rintro e w3 ⟨v3, l3, rfl, k1, k2, k3, rfl, k4⟩
  have K1 := Lib.hid k1
  clear k1
  go_wp2_with fail
  go_ret
  exact ⟨_, l3, rfl, K1.out, by rw [k2, Hval.out], by have := HlF.out; omega, HE.out.drewN _⟩
end Go.Proofs.YtammjbmfiakbnaaGreatDoor
namespace Go.Proofs.YtammjbmfiakbnaaGreatDoor
open Go.RowKit
theorem own_setCells {b0 g n cap : Nat} {e : TypeId} : ∀ (vs : List Value) (o : Nat) (w : World) (xs : List Value), w.ownsRow b0 e 1 (.slice (some ⟨g, 0, none⟩) n cap) n xs → o + vs.length ≤ n →
  (w.setCells g o vs).ownsRow b0 e 1 (.slice (some ⟨g, 0, none⟩) n cap) n (xs.take o ++ vs ++ xs.drop (o + vs.length))
 |[], o, w, xs, h, _ => by simpa [World.setCells] using h
 |v :: r, o, w, xs, h, hl => by
  simp only [List.length_cons] at hl
  have h1 := own_setCells r (o + 1) _ _ (own_set h (k := o) (by omega) v) (by omega)
  have hxs : xs.length = n := by simpa using h.1
  have e1 : (xs.set o v).take (o + 1) ++ r ++ (xs.set o v).drop (o + 1 + r.length) = xs.take o ++ v :: r ++ xs.drop (o + (r.length + 1)) := by
   rw [List.take_add_one, List.getElem?_set_self (by omega), List.take_set_of_le (by omega), List.drop_set_of_lt (by omega), show o + 1 + r.length = o + (r.length + 1) by omega]
   simp
  rw [e1] at h1
  exact h1
theorem FrameG.setCells {g : Nat} {a : World} : ∀ (vs : List Value) (o : Nat) (b : World), FrameG a b g → FrameG a (b.setCells g o vs) g
 |[], _, _, h => h
 |v :: r, o, _, h => FrameG.setCells r (o + 1) _ (h.set v)
theorem zeroCells_one (z : Value) (n : Nat) : (Builtin.zeroCells #[z] n).toList = List.replicate n z := by
 refine List.ext_getElem? fun j => ?_
 unfold Builtin.zeroCells
 by_cases hj : j < n
 ·rw [List.getElem?_replicate, if_pos hj]
  simp [hj, Nat.mod_one]
 ·rw [List.getElem?_replicate, if_neg hj]
  simp [hj]
theorem run_clear_row {P : Program} {t e : TypeId} {i : TypeInfo} {z : Value} (hu : P.underlying t = some (.slice e)) (hi : P.info? e = some i) (hz : i.zero = some z) (hc : z.cells = #[z]) (h1 : z.oneCell' = true) (w : World) (b o n c : Nat)
  (hcell : ∀ j, j < n → (w.cell? ⟨b, o + j, none⟩).isSome = true) (hf : ∀ j, j < n → w.frozen? ⟨b, o + j, none⟩ = false) (ty : TypeId) :
  (Builtin.clear_ #[t] ty #[.slice (some ⟨b, o, none⟩) n c]).run P w = .ok (.tuple #[]) (w.setCells b o (List.replicate n z)) := by
 cases n with
 |zero => simp [Builtin.clear_, run_underlying hu, World.setCells]
 |succ n =>
  have hst := run_storeCells_cells (P := P) b o (List.replicate (n + 1) z) 0 w (by simpa using hcell) (by simpa using hf) (by intro v hv; rw [(List.mem_replicate.1 hv).2]; exact h1)
  simp only [Nat.add_zero] at hst
  simp [Builtin.clear_, run_underlying hu, zeroValue, typeInfo, hi, hz, hc, zeroCells_one, hst]
end Go.Proofs.YtammjbmfiakbnaaGreatDoor
namespace Go.Proofs.YtammjbmfiakbnaaGreatDoor
open Go.RowKit
/-- A shift within a word, by whole bytes. -/
def By8 (r : Nat) : Prop := r = 8 ∨ r = 16 ∨ r = 24 ∨ r = 32 ∨ r = 40 ∨ r = 48 ∨ r = 56
set_option maxRecDepth 100000 in
theorem lshvg_aux (gz oz cz gx cx : Nat) (r r' p : Int) (h1 : bits .and .u64 r 63 = r) (h2 : IntKind.u64.wrap (64 - r) = r') (h3 : bits .and .u64 r' 63 = r') (h4 : ∀ W : World, (Op.shift .shr .u64 1 .u64 r').run Tryz.prog W = .ok (.int .u64 0) W)
  (h5 : ∀ W : World, (Op.shift .shl .u64 1 .u64 r).run Tryz.prog W = .ok (.int .u64 p) W) (h6 : (r == 0) = false) (zv : Value) (w : World) (hxc : w.cell? ⟨gx, 0, none⟩ = some (.int .u64 1)) (hzc : w.cell? ⟨gz, oz, none⟩ = some zv) (hzf : w.frozen? ⟨gz, oz, none⟩ = false) :
  Calls Tryz.prog 217 #[.slice (some ⟨gz, oz, none⟩) 1 cz, .slice (some ⟨gx, 0, none⟩) 1 cx, .int .u64 r] w fun e w' => e = .returned (.int .u64 0) ∧ w' = w.setCell ⟨gz, oz, none⟩ (.int .u64 p) := by
 go_enter Tryz.func217, Tryz.ntmps217
 go_wp2_with fail
 refine wp_loop_once ?_
 go_wp2_with fail
 go_ret
 exact ⟨rfl, rfl⟩
set_option maxRecDepth 100000 in
theorem lshv_any (gz oz cz gx cx r : Nat) (hr : By8 r) (zv : Value) (w : World) (hxc : w.cell? ⟨gx, 0, none⟩ = some (wd 1)) (hzc : w.cell? ⟨gz, oz, none⟩ = some zv) (hzf : w.frozen? ⟨gz, oz, none⟩ = false) :
  Calls Tryz.prog 192 #[.slice (some ⟨gz, oz, none⟩) 1 cz, .slice (some ⟨gx, 0, none⟩) 1 cx, .int .u64 r] w fun e w' => e = .returned (.int .u64 0) ∧ w' = w.setCell ⟨gz, oz, none⟩ (wd (2 ^ r)) := by
 have h : Calls Tryz.prog 217 #[.slice (some ⟨gz, oz, none⟩) 1 cz, .slice (some ⟨gx, 0, none⟩) 1 cx, .int .u64 r] w fun e w' => e = .returned (.int .u64 0) ∧ w' = w.setCell ⟨gz, oz, none⟩ (wd (2 ^ r)) := by
  rcases hr with rfl | rfl | rfl | rfl | rfl | rfl | rfl
  ·exact lshvg_aux gz oz cz gx cx 8 56 256 (by decide) (by decide) (by decide) (fun W => by kernel_rfl) (fun W => by kernel_rfl) (by decide) zv w hxc hzc hzf
  ·exact lshvg_aux gz oz cz gx cx 16 48 65536 (by decide) (by decide) (by decide) (fun W => by kernel_rfl) (fun W => by kernel_rfl) (by decide) zv w hxc hzc hzf
  ·exact lshvg_aux gz oz cz gx cx 24 40 16777216 (by decide) (by decide) (by decide) (fun W => by kernel_rfl) (fun W => by kernel_rfl) (by decide) zv w hxc hzc hzf
  ·exact lshvg_aux gz oz cz gx cx 32 32 4294967296 (by decide) (by decide) (by decide) (fun W => by kernel_rfl) (fun W => by kernel_rfl) (by decide) zv w hxc hzc hzf
  ·exact lshvg_aux gz oz cz gx cx 40 24 1099511627776 (by decide) (by decide) (by decide) (fun W => by kernel_rfl) (fun W => by kernel_rfl) (by decide) zv w hxc hzc hzf
  ·exact lshvg_aux gz oz cz gx cx 48 16 281474976710656 (by decide) (by decide) (by decide) (fun W => by kernel_rfl) (fun W => by kernel_rfl) (by decide) zv w hxc hzc hzf
  ·exact lshvg_aux gz oz cz gx cx 56 8 72057594037927936 (by decide) (by decide) (by decide) (fun W => by kernel_rfl) (fun W => by kernel_rfl) (by decide) zv w hxc hzc hzf
 have H := Lib.hid h
 clear h hxc hzc hzf
 go_enter Tryz.func192, Tryz.ntmps192
 go_wp2_with fail
 refine H.out.mono ?_
 rintro e w1 ⟨rfl, rfl⟩
 go_wp2_with fail
 go_ret
 exact ⟨rfl, rfl⟩
theorem set2 (q : Nat) (z u v : Value) : ((List.replicate (q + 2) z).set q u).set (1 + q) v = List.replicate q z ++ [u, v] := by
 have e : List.replicate (q + 2) z = List.replicate q z ++ [z, z] := by rw [← List.replicate_append_replicate]; rfl
 rw [e, List.set_append_right _ _ (by simp), List.set_append_right _ _ (by simp)]
 simp
theorem clr_cells {w : World} {b0 g cap q : Nat} {u v : Value} (ho : w.ownsRow b0 291 1 (.slice (some ⟨g, 0, none⟩) (q + 2) cap) (q + 2) (List.replicate q (wd 0) ++ [u, v])) :
  (∀ ty, (Builtin.clear_ #[112] ty #[.slice (some ⟨g, 0, none⟩) q cap]).run Tryz.prog w = .ok (.tuple #[]) (w.setCells g 0 (List.replicate q (wd 0)))) ∧
   (w.setCells g 0 (List.replicate q (wd 0))).ownsRow b0 291 1 (.slice (some ⟨g, 0, none⟩) (q + 2) cap) (q + 2) (List.replicate q (wd 0) ++ [u, v]) := by
 obtain ⟨i0, hi0, hz0, hz1, hz2⟩ := info_parts info291
 have hc : ∀ j, j < q → w.cell? ⟨g, j, none⟩ = some (wd 0) ∧ w.frozen? ⟨g, j, none⟩ = false := fun j hj =>
  own_get ho (by rw [List.getElem?_append_left (by simpa using hj), List.getElem?_replicate, if_pos hj])
 refine ⟨fun ty => run_clear_row Tryz.underlying112 hi0 hz0 rfl rfl w g 0 q cap (fun j hj => by rw [Nat.zero_add, (hc j hj).1]; rfl) (fun j hj => by rw [Nat.zero_add]; exact (hc j hj).2) ty, ?_⟩
 have := own_setCells (List.replicate q (wd 0)) 0 w _ ho (by simp)
 simpa using this
theorem pow_words (q r : Nat) : wVal (List.replicate q 0 ++ [2 ^ r, 0]) = 2 ^ (64 * q + r) := by
 rw [wVal_shift]
 simp only [wVal, Nat.mul_zero, Nat.add_zero]
 rw [show (18446744073709551616 : Nat) = 2 ^ 64 from rfl, ← Nat.pow_mul, ← Nat.pow_add]
set_option maxRecDepth 100000 in
set_option maxHeartbeats 2000000 in
theorem lsh_any (gx q r s : Nat) (hs : s = 64 * q + r) (hr : r = 0 ∨ By8 r) (hs0 : 1 ≤ s) (hq : q ≤ 100) (w : World) (hX : Blk w gx 291 #[wd 1]) :
  Calls Tryz.prog 147 #[.slice none 0 0, .slice (some ⟨gx, 0, none⟩) 1 1, .int .u64 s] w fun e w' => ∃ v' l', e = .returned v' ∧ NatW w' w.heap.size v' l' ∧ wVal l' = 2 ^ s ∧ l'.length ≤ q + 2 ∧ Ext w w' := by
 have hm := make_any none 0 0 (q + 2) (Nat.le_refl _) (by unfold maxLen; omega) (fun h => by omega) (by omega) (by omega) w
 have e0 : ((q + 2 : Nat) : Int) = 1 + (q : Int) + 1 := by omega
 rw [e0] at hm
 have Hm := Lib.hid hm
 have HX := Lib.hid hX
 have hgx := hX.lt
 have hr64 : r < 64 := by unfold By8 at hr; omega
 have k0 : ((s : Int) == 0) = false := beq_eq_false_iff_ne.2 (by omega)
 have k1 : (s : Int) / 64 = q := by omega
 have k2 : (s : Int) % 64 = r := by omega
 have HS := Lib.hid hs
 have hs' : (s : Int) ≤ 10000 := by omega
 clear hm hX e0 hs
 rcases hr with rfl | hr
 ·go_enter Tryz.func147, Tryz.ntmps147
  go_wp2_with fail
  refine Hm.out.mono ?_
  rintro e w1 ⟨v1, rfl, hq'⟩
  rcases hq' with ⟨h1, -⟩ | ⟨-, c', h2, h3, rfl, rfl⟩
  ·omega
  have hown := mk_words_own (w0 := w) (W := w) (Nat.le_refl _) (q + 2) c' h2 h3
  have hX1 := HX.out.alloc (.cells (madeCells #[wd 0] c') 291)
  have hE1 : Ext w (w.alloc (.cells (madeCells #[wd 0] c') 291)) := (Ext.refl w).alloc _
  have hF1 := FrameG.refl (w.alloc (.cells (madeCells #[wd 0] c') 291)) w.heap.size
  generalize hg : w.heap.size = g at *
  generalize World.alloc _ _ = W1 at *
  obtain ⟨z0, z1⟩ := own_get hown (wd_at (a := 0) (k := q) (by rw [List.getElem?_replicate, if_pos (by omega)]))
  have hcp : ∀ ty, (Builtin.copy_ #[112, 112] ty #[.slice (some ⟨g, q, none⟩) 1 (c' - q), .slice (some ⟨gx, 0, none⟩) 1 1]).run Tryz.prog W1 = .ok (.int .i64 1) (W1.setCell ⟨g, q, none⟩ (wd 1)) := fun ty =>
   run_copy_cells (P := Tryz.prog) W1 112 112 ty 291 g q 1 (c' - q) ⟨gx, 0, none⟩ 1 1 [wd 1] Tryz.underlying112 size291 rfl (fun j v hj => by
    cases j with
    |zero =>
     simp only [List.getElem?_cons_zero, Option.some.injEq] at hj
     subst hj
     exact hX1.c1.1
    |succ j => simp at hj) (fun j hj => by
    obtain rfl : j = 0 := by simp at hj; omega
    simp [z0]) (fun j hj => by
    obtain rfl : j = 0 := by simp at hj; omega
    simpa using z1) (by simp [Value.oneCell'])
  have HO := Lib.hid hown
  have HE := Lib.hid hE1
  have q1 : ¬ c' = q := by omega
  have hO2 := own_set hown (k := q) (by omega) (wd 1)
  have hF2 := hF1.set (o := q) (wd 1)
  clear hown hX1 hE1
  generalize World.setCell _ _ _ = W2 at *
  obtain ⟨y0, y1⟩ := own_get hO2 (k := 1 + q) (u := wd 0) (by rw [List.getElem?_set_ne (by omega)]; exact wd_at (by rw [List.getElem?_replicate, if_pos (by omega)]))
  have hO3 := own_set hO2 (k := 1 + q) (by omega) (wd 0)
  have hF3 := hF2.set (o := 1 + q) (wd 0)
  have HO3 := Lib.hid hO3
  have HF3 := Lib.hid hF3
  clear hO2 hF2 hO3 hF3 z0 z1 hF1
  clear HO
  go_upto_region 16 with fail
  have HO4 : (W2.setCell ⟨g, 1 + q, none⟩ (.int .u64 0)).ownsRow g 291 1 (.slice (some ⟨g, 0, none⟩) (q + 2) c') (q + 2) (List.replicate q (wd 0) ++ [wd (2 ^ 0), wd 0]) := by
   have := HO3.out
   rw [List.map_replicate, set2] at this
   exact this
  have HF4 : FrameG W1 (W2.setCell ⟨g, 1 + q, none⟩ (.int .u64 0)) g := HF3.out
  clear HO3 HF3 y0 y1
  generalize World.setCell _ _ _ = W3 at *
  obtain ⟨hclr, hO5⟩ := clr_cells HO4
  have hF5 := HF4.setCells (List.replicate q (wd 0)) 0
  have hmap : List.replicate q (wd 0) ++ [wd (2 ^ 0), wd 0] = (List.replicate q 0 ++ [2 ^ 0, 0]).map wd := by simp
  have hll : (List.replicate q 0 ++ [2 ^ 0, 0] : List Nat).length = q + 2 := by simp
  rw [hmap] at hO5
  have hnrm := norm_any (List.replicate q 0 ++ [2 ^ 0, 0]) (by rw [hll]; omega) g (.slice (some ⟨g, 0, none⟩) (q + 2) c') (W3.setCells g 0 (List.replicate q (wd 0))) (by rw [hll]; exact hO5) (fun a ha => by
   rcases List.mem_append.1 ha with ha | ha
   ·rw [(List.mem_replicate.1 ha).2]; omega
   ·have hp : (2 : Nat) ^ 0 < 2 ^ 64 := Nat.pow_lt_pow_right (by omega) hr64
    simp only [List.mem_cons, List.not_mem_nil, or_false] at ha
    rcases ha with rfl | rfl
    ·exact hp
    ·omega)
  rw [pow_words, ← HS.out, hll] at hnrm
  have Hnrm := Lib.hid hnrm
  have HEF := Lib.hid (hF5.ext HE.out (by rw [hg]; exact Nat.le_refl _))
  clear HO4 HF4 hO5 hF5 hmap hll hnrm
  go_wp2_with fail
  generalize World.setCells _ _ _ _ = W4 at *
  clear hclr
  refine Hnrm.out.mono ?_
  rintro e w3 ⟨v3, l3, rfl, p1, p2, p3, rfl, p4⟩
  have P1 := Lib.hid p1
  clear p1
  go_wp2_with fail
  go_ret
  exact ⟨_, l3, rfl, by rw [hg]; exact P1.out, p2, p3, HEF.out⟩
 ·have kr : ((r : Int) == 0) = false := beq_eq_false_iff_ne.2 (by unfold By8 at hr; omega)
  go_enter Tryz.func147, Tryz.ntmps147
  go_wp2_with fail
  refine Hm.out.mono ?_
  rintro e w1 ⟨v1, rfl, hq'⟩
  rcases hq' with ⟨h1, -⟩ | ⟨-, c', h2, h3, rfl, rfl⟩
  ·omega
  have hown := mk_words_own (w0 := w) (W := w) (Nat.le_refl _) (q + 2) c' h2 h3
  have hX1 := HX.out.alloc (.cells (madeCells #[wd 0] c') 291)
  have hE1 : Ext w (w.alloc (.cells (madeCells #[wd 0] c') 291)) := (Ext.refl w).alloc _
  have hF1 := FrameG.refl (w.alloc (.cells (madeCells #[wd 0] c') 291)) w.heap.size
  generalize hg : w.heap.size = g at *
  generalize World.alloc _ _ = W1 at *
  obtain ⟨z0, z1⟩ := own_get hown (wd_at (a := 0) (k := q) (by rw [List.getElem?_replicate, if_pos (by omega)]))
  have hcall := lshv_any g q (c' - q) gx 1 r hr _ W1 hX1.c1.1 z0 z1
  have Hcall := Lib.hid hcall
  have HO := Lib.hid hown
  have HE := Lib.hid hE1
  have q1 : ¬ c' = q := by omega
  clear hown hX1 hE1 hcall
  go_wp2_with fail
  refine Hcall.out.mono ?_
  rintro e w2 ⟨rfl, rfl⟩
  have hO2 := own_set HO.out (k := q) (by omega) (wd (2 ^ r))
  have hF2 := hF1.set (o := q) (wd (2 ^ r))
  generalize World.setCell _ _ _ = W2 at *
  obtain ⟨y0, y1⟩ := own_get hO2 (k := 1 + q) (u := wd 0) (by rw [List.getElem?_set_ne (by omega)]; exact wd_at (by rw [List.getElem?_replicate, if_pos (by omega)]))
  have hO3 := own_set hO2 (k := 1 + q) (by omega) (wd 0)
  have hF3 := hF2.set (o := 1 + q) (wd 0)
  have HO3 := Lib.hid hO3
  have HF3 := Lib.hid hF3
  clear hO2 hF2 hO3 hF3 z0 z1 hF1
  go_upto_region 16 with fail
  have HO4 : (W2.setCell ⟨g, 1 + q, none⟩ (.int .u64 0)).ownsRow g 291 1 (.slice (some ⟨g, 0, none⟩) (q + 2) c') (q + 2) (List.replicate q (wd 0) ++ [wd (2 ^ r), wd 0]) := by
   have := HO3.out
   rw [List.map_replicate, set2] at this
   exact this
  have HF4 : FrameG W1 (W2.setCell ⟨g, 1 + q, none⟩ (.int .u64 0)) g := HF3.out
  clear HO3 HF3 y0 y1
  generalize World.setCell _ _ _ = W3 at *
  obtain ⟨hclr, hO5⟩ := clr_cells HO4
  have hF5 := HF4.setCells (List.replicate q (wd 0)) 0
  have hmap : List.replicate q (wd 0) ++ [wd (2 ^ r), wd 0] = (List.replicate q 0 ++ [2 ^ r, 0]).map wd := by simp
  have hll : (List.replicate q 0 ++ [2 ^ r, 0] : List Nat).length = q + 2 := by simp
  rw [hmap] at hO5
  have hnrm := norm_any (List.replicate q 0 ++ [2 ^ r, 0]) (by rw [hll]; omega) g (.slice (some ⟨g, 0, none⟩) (q + 2) c') (W3.setCells g 0 (List.replicate q (wd 0))) (by rw [hll]; exact hO5) (fun a ha => by
   rcases List.mem_append.1 ha with ha | ha
   ·rw [(List.mem_replicate.1 ha).2]; omega
   ·have hp : (2 : Nat) ^ r < 2 ^ 64 := Nat.pow_lt_pow_right (by omega) hr64
    simp only [List.mem_cons, List.not_mem_nil, or_false] at ha
    rcases ha with rfl | rfl
    ·exact hp
    ·omega)
  rw [pow_words, ← HS.out, hll] at hnrm
  have Hnrm := Lib.hid hnrm
  have HEF := Lib.hid (hF5.ext HE.out (by rw [hg]; exact Nat.le_refl _))
  clear HO4 HF4 hO5 hF5 hmap hll hnrm
  go_wp2_with fail
  generalize World.setCells _ _ _ _ = W4 at *
  clear hclr
  refine Hnrm.out.mono ?_
  rintro e w3 ⟨v3, l3, rfl, p1, p2, p3, rfl, p4⟩
  have P1 := Lib.hid p1
  clear p1
  go_wp2_with fail
  go_ret
  exact ⟨_, l3, rfl, by rw [hg]; exact P1.out, p2, p3, HEF.out⟩
end Go.Proofs.YtammjbmfiakbnaaGreatDoor
