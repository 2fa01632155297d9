/- A part of the proof that the card of laws.FnMarshal holds. No conditions. -/
import Derived.Test.YtammjbmfiakbnaaGreatDoorM03
import Derived.Test.YtammjbmfiakbnaaGreatDoorM04
import Derived.Deep.RegionWith
import Derived.RegionTactic
import Derived.LaidEql
import Derived.Test.YtammjbmfiakbnaaGreatDoorM00
import Derived.Laws.CopyRow
import Derived.Laws.IdiomCopy
set_option linter.unusedSimpArgs false
set_option linter.unusedVariables false
namespace Go.Proofs.YtammjbmfiakbnaaGreatDoor
/-- What a subtraction's loop keeps. -/
structure SubV (xs ys L : List Nat) (i c : Nat) (L' : List Nat) : Prop where
 len : L'.length = L.length
 small : c ≤ 1
 rest : ∀ j, i ≤ j → L'[j]? = L[j]?
 words : ∀ a ∈ L'.take i, a < 18446744073709551616
 sum : wVal (L'.take i) + wVal (ys.take i) = wVal (xs.take i) + 18446744073709551616 ^ i * c
theorem SubV.start (xs ys L : List Nat) : SubV xs ys L 0 0 L := ⟨rfl, by omega, fun _ _ => rfl, by simp, by simp [wVal]⟩
theorem SubV.step {xs ys L L' : List Nat} {i c x y : Nat} (h : SubV xs ys L i c L') (hx : xs[i]? = some x) (hy : ys[i]? = some y) (hi : i < L.length) (t c' : Nat) (ht : t < 18446744073709551616) (hc : c' ≤ 1) (he : t + y + c = x + 18446744073709551616 * c') :
  SubV xs ys L (i + 1) c' (L'.set i t) := by
 have hil : i < L'.length := by rw [h.len]; omega
 have hix := (List.getElem?_eq_some_iff.1 hx).1
 have hiy := (List.getElem?_eq_some_iff.1 hy).1
 have ex : xs[i] = x := (List.getElem?_eq_some_iff.1 hx).2
 have ey : ys[i] = y := (List.getElem?_eq_some_iff.1 hy).2
 refine ⟨by simp [h.len], hc, fun j hj => by rw [List.getElem?_set_ne (by omega)]; exact h.rest j (by omega), fun a ha => ?_, ?_⟩
 ·rw [take_set_succN hil] at ha
  rcases List.mem_append.1 ha with ha | ha
  ·exact h.words a ha
  ·simp at ha; omega
 ·rw [take_set_succN hil, take_succN hix, take_succN hiy, wVal_append, wVal_append, wVal_append, ex, ey]
  have h1 := h.sum
  simp only [List.length_take, Nat.min_eq_left (Nat.le_of_lt hil), Nat.min_eq_left (Nat.le_of_lt hix), Nat.min_eq_left (Nat.le_of_lt hiy), wVal, Nat.mul_zero, Nat.add_zero]
  rw [show 18446744073709551616 ^ (i + 1) = 18446744073709551616 ^ i * 18446744073709551616 from Nat.pow_succ _ _]
  generalize 18446744073709551616 ^ i = B at h1
  have e1 : B * (t + y + c) = B * (x + 18446744073709551616 * c') := by rw [he]
  rw [Nat.mul_add, Nat.mul_add, Nat.mul_add, ← Nat.mul_assoc] at e1
  omega
theorem wVal_lt64 (l : List Nat) (h : ∀ a ∈ l, a < 18446744073709551616) : wVal l < 18446744073709551616 ^ l.length := by
 have := wVal_lt l h
 rw [Nat.pow_mul] at this
 exact this
theorem wVal_ge {l : List Nat} (h : l ≠ []) (hn : Nrm l) : 18446744073709551616 ^ (l.length - 1) ≤ wVal l := by
 obtain ⟨m, a, rfl⟩ : ∃ m a, l = m ++ [a] := ⟨l.dropLast, l.getLast h, (List.dropLast_concat_getLast h).symm⟩
 have ha : 0 < a := by
  rcases Nat.eq_zero_or_pos a with h | h
  ·exact absurd (by rw [h]; simp) hn
  ·exact h
 rw [wVal_append]
 simp only [List.length_append, List.length_cons, List.length_nil, wVal, Nat.mul_zero, Nat.add_zero, Nat.zero_add, Nat.add_sub_cancel]
 have := Nat.mul_le_mul_left (18446744073709551616 ^ m.length) ha
 omega
/-- The smaller number has no more words. -/
theorem len_le {x y : List Nat} (hx : x = [] ∨ Nrm x) (hy : ∀ a ∈ y, a < 18446744073709551616) (h : wVal x ≤ wVal y) : x.length ≤ y.length := by
 rcases hx with rfl | hx
 ·simp
 by_cases hne : x = []
 ·subst hne; simp
 rcases Nat.lt_or_ge y.length x.length with hlt | hge
 ·exfalso
  have h1 := wVal_ge hne hx
  have h2 := wVal_lt64 y hy
  have h3 : 18446744073709551616 ^ y.length ≤ 18446744073709551616 ^ (x.length - 1) := Nat.pow_le_pow_right (by omega) (by omega)
  omega
 ·exact hge
/-- Where two numbers of as many words part. -/
theorem cmp_at {x y : List Nat} {i a b : Nat} (hl : x.length = y.length) (ha : x[i]? = some a) (hb : y[i]? = some b) (hx : ∀ a ∈ x, a < 18446744073709551616) (hy : ∀ a ∈ y, a < 18446744073709551616)
  (heq : ∀ j, i < j → x[j]? = y[j]?) (hor : i = 0 ∨ a ≠ b) (h : wVal x < wVal y) : a < b := by
 have hix := (List.getElem?_eq_some_iff.1 ha).1
 have hiy := (List.getElem?_eq_some_iff.1 hb).1
 have ex : x[i] = a := (List.getElem?_eq_some_iff.1 ha).2
 have ey : y[i] = b := (List.getElem?_eq_some_iff.1 hb).2
 have hd : x.drop (i + 1) = y.drop (i + 1) := by
  refine List.ext_getElem? fun j => ?_
  rw [List.getElem?_drop, List.getElem?_drop]
  exact heq _ (by omega)
 have e1 : x = x.take (i + 1) ++ x.drop (i + 1) := (List.take_append_drop _ _).symm
 have e2 : y = y.take (i + 1) ++ y.drop (i + 1) := (List.take_append_drop _ _).symm
 rw [e1, e2, wVal_append, wVal_append, hd, List.length_take, List.length_take, Nat.min_eq_left hix, Nat.min_eq_left hiy] at h
 have h' : wVal (x.take (i + 1)) < wVal (y.take (i + 1)) := by omega
 rw [take_succN hix, take_succN hiy, wVal_append, wVal_append, ex, ey, List.length_take, List.length_take, Nat.min_eq_left (Nat.le_of_lt hix), Nat.min_eq_left (Nat.le_of_lt hiy)] at h'
 simp only [wVal, Nat.mul_zero, Nat.add_zero] at h'
 have b1 := wVal_lt64 (x.take i) (fun a ha => hx a (List.mem_of_mem_take ha))
 have b2 := wVal_lt64 (y.take i) (fun a ha => hy a (List.mem_of_mem_take ha))
 rw [List.length_take, Nat.min_eq_left (Nat.le_of_lt hix)] at b1
 rw [List.length_take, Nat.min_eq_left (Nat.le_of_lt hiy)] at b2
 rcases Nat.lt_or_ge a b with hlt | hge
 ·exact hlt
 ·exfalso
  rcases Nat.lt_or_ge b a with hba | hba
  ·have := Nat.mul_le_mul_left (18446744073709551616 ^ i) (show b + 1 ≤ a by omega)
   rw [Nat.mul_add, Nat.mul_one] at this
   omega
  ·obtain rfl : a = b := by omega
   rcases hor with rfl | hor
   ·simp at h'
   ·exact hor rfl
/-- A power of two as words. -/
theorem wVal_shift (q : Nat) (x : Nat) (m : List Nat) : wVal (List.replicate q 0 ++ x :: m) = 18446744073709551616 ^ q * (x + 18446744073709551616 * wVal m) := by
 have h0 : ∀ q : Nat, wVal (List.replicate q 0) = 0 := by
  intro q
  induction q with
  |zero => rfl
  |succ q ih => rw [List.replicate_succ]; simp [wVal, ih]
 rw [wVal_append, h0, List.length_replicate]
 simp [wVal]
end Go.Proofs.YtammjbmfiakbnaaGreatDoor
namespace Go.Proofs.YtammjbmfiakbnaaGreatDoor
open Go.RowKit
theorem FrameG.drew {a b : World} {g : Nat} (h : FrameG a b g) : FrameG a b.drew g := ⟨h.os, h.tape, h.output, h.size, h.rest⟩
theorem FrameG.drewN {a b : World} {g : Nat} (h : FrameG a b g) (n : Nat) : FrameG a (b.drewN n) g := ⟨h.os, h.tape, h.output, h.size, h.rest⟩
theorem subc_any (x y c : Nat) (hx : x < 18446744073709551616) (hy : y < 18446744073709551616) (hc : c ≤ 1) (w : World) :
  Calls Tryz.prog 216 #[.int .u64 x, .int .u64 y, .int .u64 c] w fun e w' => ∃ t b : Nat, e = .returned (.tuple #[.int .u64 t, .int .u64 b]) ∧ t < 18446744073709551616 ∧ b ≤ 1 ∧ t + y + c = x + 18446744073709551616 * b ∧ w' = w := by
 obtain ⟨t, b, h1, h2, h3, h4, h5⟩ : ∃ t b : Nat, ((x : Int) - y - c) % 18446744073709551616 = t ∧ bor x (y + c) = b ∧ t < 18446744073709551616 ∧ b ≤ 1 ∧ t + y + c = x + 18446744073709551616 * b := by
  refine ⟨(((x : Int) - y - c) % 18446744073709551616).toNat, (bor x (y + c)).toNat, by omega, ?_, by omega, ?_, ?_⟩
  ·unfold bor; split <;> rfl
  ·unfold bor; split <;> simp
  ·unfold bor; split <;> simp <;> omega
 have h := fun W => call_sub64 x y c hy hc W
 rw [h1, h2] at h
 have H5 := Lib.hid h5
 clear h1 h2 h5
 go_enter Tryz.func216, Tryz.ntmps216
 go_wp2_with fail
 go_ret2
 exact ⟨t, b, rfl, h3, h4, H5.out, rfl⟩
set_option maxRecDepth 100000 in
set_option maxHeartbeats 2000000 in
theorem subvg_any (xs ys : List Nat) (n : Nat) (hn : n ≤ 1000000) (hx : ∀ a ∈ xs, a < 18446744073709551616) (hy : ∀ a ∈ ys, a < 18446744073709551616) (hxl : n ≤ xs.length) (hyl : n ≤ ys.length)
  (b0 gz cz cz' gx ox cx gy oy cy N : Nat) (L : List Nat) (w : World) (hown : w.ownsRow b0 291 1 (.slice (some ⟨gz, 0, none⟩) N cz) N (L.map wd)) (hN : n ≤ N) (hgx : gx ≠ gz) (hgy : gy ≠ gz)
  (hxs : ∀ j a, j < n → xs[j]? = some a → w.cell? ⟨gx, ox + j, none⟩ = some (wd a)) (hys : ∀ j a, j < n → ys[j]? = some a → w.cell? ⟨gy, oy + j, none⟩ = some (wd a)) :
  Calls Tryz.prog 215 #[.slice (some ⟨gz, 0, none⟩) n cz', .slice (some ⟨gx, ox, none⟩) n cx, .slice (some ⟨gy, oy, none⟩) n cy] w
   fun e w' => ∃ (c : Nat) (L' : List Nat), e = .returned (.int .u64 c) ∧ SubV xs ys L n c L' ∧ w'.ownsRow b0 291 1 (.slice (some ⟨gz, 0, none⟩) N cz) N (L'.map wd) ∧ FrameG w w' gz := by
 have hLN : L.length = N := by simpa using hown.1
 have HO := Lib.hid hown
 have HXS := Lib.hid hxs
 have HYS := Lib.hid hys
 have Hx := Lib.hid hx
 have Hy := Lib.hid hy
 clear hown hxs hys hx hy
 go_enter Tryz.func215, Tryz.ntmps215
 go_wp2_with fail
 go_loopw [6, 25] (fun cv v wr => ∃ (i c : Nat) (L' : List Nat), i ≤ n ∧ v = .int .i64 i ∧ cv = .int .u64 c ∧ SubV xs ys L i c L' ∧ wr.ownsRow b0 291 1 (.slice (some ⟨gz, 0, none⟩) N cz) N (L'.map wd) ∧ FrameG w wr gz) (fun _ v _ => n - (intOf v).toNat)
 case atStart => exact ⟨0, 0, L, Nat.zero_le _, rfl, rfl, SubV.start _ _ _, HO.out, FrameG.refl _ _⟩
 case round =>
  obtain ⟨i, c, L', hi, rfl, rfl, hM, ho, hf⟩ := hrel
  have hlen := hM.len
  by_cases hlt : (i : Int) < n
  ·have hi' : i < n := by omega
   obtain ⟨x, hxi⟩ : ∃ x, xs[i]? = some x := ⟨_, List.getElem?_eq_getElem (by omega)⟩
   obtain ⟨y, hyi⟩ : ∃ y, ys[i]? = some y := ⟨_, List.getElem?_eq_getElem (by omega)⟩
   have hxb := Hx.out x (List.mem_of_getElem? hxi)
   have hyb := Hy.out y (List.mem_of_getElem? hyi)
   have c0 := (hf.cell (o := ox + i) hgx).trans (HXS.out i x hi' hxi)
   have c1 := (hf.cell (o := oy + i) hgy).trans (HYS.out i y hi' hyi)
   obtain ⟨q, hq⟩ : ∃ q, L'[i]? = some q := ⟨_, List.getElem?_eq_getElem (by omega)⟩
   obtain ⟨g0, g1⟩ := own_get ho (wd_at hq)
   have hstep := fun t b ht hb he => hM.step hxi hyi (by omega) t b ht hb he
   have hcall := fun W => subc_any x y c hxb hyb hM.small W
   have hO2 := fun t : Nat => own_set ho (k := i) (by omega) (wd t)
   have HO2 := Lib.hid (fun t : Nat => by have := hO2 t; rw [← List.map_set] at this; exact this)
   have Hcall := Lib.hid hcall
   have Hstep := Lib.hid hstep
   have HF := Lib.hid (fun t : Nat => hf.set (o := i) (wd t))
   clear hM ho hf hxi hyi hq hstep hcall hO2
   go_wp2_with fail
   go_region_with (refine (Hcall.out _).mono ?_; rintro e w2 ⟨t, b, rfl, ht, hb, he, rfl⟩)
   all_goals
    have Hs := Lib.hid (Hstep.out t b ht hb he)
    clear he
    go_wp2_with fail
    go_roundw
    case rel => exact ⟨i + 1, b, _, by omega, by go_num, rfl, Hs.out, HO2.out t, (HF.out t).drew⟩
    case measure => simp [intOf]; omega
  ·obtain rfl : i = n := by omega
   have HM := Lib.hid hM
   have HO := Lib.hid ho
   clear hM ho
   go_wp2_with fail
   go_ret
   exact ⟨c, rfl, L', HM.out, HO.out, hf⟩
theorem subv_any (xs ys : List Nat) (n : Nat) (hn : n ≤ 1000000) (hx : ∀ a ∈ xs, a < 18446744073709551616) (hy : ∀ a ∈ ys, a < 18446744073709551616) (hxl : n ≤ xs.length) (hyl : n ≤ ys.length)
  (b0 gz cz cz' gx ox cx gy oy cy N : Nat) (L : List Nat) (w : World) (hown : w.ownsRow b0 291 1 (.slice (some ⟨gz, 0, none⟩) N cz) N (L.map wd)) (hN : n ≤ N) (hgx : gx ≠ gz) (hgy : gy ≠ gz)
  (hxs : ∀ j a, j < n → xs[j]? = some a → w.cell? ⟨gx, ox + j, none⟩ = some (wd a)) (hys : ∀ j a, j < n → ys[j]? = some a → w.cell? ⟨gy, oy + j, none⟩ = some (wd a)) :
  Calls Tryz.prog 188 #[.slice (some ⟨gz, 0, none⟩) n cz', .slice (some ⟨gx, ox, none⟩) n cx, .slice (some ⟨gy, oy, none⟩) n cy] w
   fun e w' => ∃ (c : Nat) (L' : List Nat), e = .returned (.int .u64 c) ∧ SubV xs ys L n c L' ∧ w'.ownsRow b0 291 1 (.slice (some ⟨gz, 0, none⟩) N cz) N (L'.map wd) ∧ FrameG w w' gz := by
 have h := Lib.hid (subvg_any xs ys n hn hx hy hxl hyl b0 gz cz cz' gx ox cx gy oy cy N L w hown hN hgx hgy hxs hys)
 clear hown hxs hys hx hy
 go_enter Tryz.func188, Tryz.ntmps188
 go_wp2_with fail
 refine h.out.mono ?_
 rintro e w' ⟨c, L', rfl, h1, h2, h3⟩
 have H1 := Lib.hid h1
 have H2 := Lib.hid h2
 clear h1 h2
 go_wp2_with fail
 go_ret
 exact ⟨c, L', rfl, H1.out, H2.out, h3⟩
end Go.Proofs.YtammjbmfiakbnaaGreatDoor
namespace Go.Proofs.YtammjbmfiakbnaaGreatDoor
open Go.RowKit
theorem FrameG.drewG {w w' : World} {g : Nat} (h : FrameG w w' g) : FrameG w w'.drew g := ⟨h.os, h.tape, h.output, h.size, h.rest⟩
/-- The reader's cells. -/
abbrev RdrC (s : ByteArray) (p q : Int) : Array Value := #[.string s, .int .i64 p, .int .i64 q]
set_option maxRecDepth 100000 in
theorem read_any (rb : Nat) (s : ByteArray) (hs : s.size ≤ 140737488351232) (p : Nat) (q : Int) (hp : p < s.size) (w : World) (hb : Blk w rb 235 (RdrC s p q)) :
  Calls Tryz.prog 281 #[.pointer (some ⟨rb, 0, none⟩)] w fun e w' => e = .returned (.tuple #[.int .u8 (s[p].toNat : Int), .nilIface]) ∧ Blk w' rb 235 (RdrC s (p + 1 : Nat) (-1)) ∧ FrameG w w' rb := by
 obtain ⟨c0, c1, c2⟩ := hb.c3
 have fz : ∀ i, w.frozen? ⟨rb, i, none⟩ = false := fun i => hb.frozen i
 have HB := Lib.hid hb
 clear hb
 have hpi : (p : Int) < s.size := by omega
 go_enter Tryz.func281, Tryz.ntmps281
 go_wp2_with fail
 generalize hW : World.setCell w _ _ = W1
 have h1 : Blk W1 rb 235 (RdrC s p (-1)) ∧ FrameG w W1 rb := by
  rw [← hW]
  exact ⟨HB.out.set_ 2 _, (FrameG.refl w rb).set _⟩
 clear hW c0 c1 c2
 obtain ⟨hb1, hf1⟩ := h1
 obtain ⟨c0, c1, c2⟩ := hb1.c3
 have fz1 : ∀ i, W1.frozen? ⟨rb, i, none⟩ = false := fun i => hb1.frozen i
 have HB1 := Lib.hid hb1
 have HF1 := Lib.hid hf1
 clear hb1 hf1 fz HB
 go_region
 go_wp2_with fail
 go_region
 go_wp2_with fail
 go_ret2
 refine ⟨rfl, ?_, (HF1.out.set _).drewG.drewG⟩
 have := HB1.out.set_ 1 (.int .i64 ((p : Int) + 1))
 exact this
set_option maxRecDepth 100000 in
theorem read_end (rb : Nat) (s : ByteArray) (hs : s.size ≤ 140737488351232) (q : Int) (w : World) (hb : Blk w rb 235 (RdrC s s.size q)) (te : TypeId) (ve : Value) (hG : w.cell? ⟨2, 0, none⟩ = some (.iface te ve)) (hrb : rb ≠ 2) :
  Calls Tryz.prog 281 #[.pointer (some ⟨rb, 0, none⟩)] w fun e w' => e = .returned (.tuple #[.int .u8 0, .iface te ve]) ∧ Blk w' rb 235 (RdrC s s.size (-1)) ∧ FrameG w w' rb := by
 obtain ⟨c0, c1, c2⟩ := hb.c3
 have fz : ∀ i, w.frozen? ⟨rb, i, none⟩ = false := fun i => hb.frozen i
 have HB := Lib.hid hb
 clear hb
 go_enter Tryz.func281, Tryz.ntmps281
 go_wp2_with fail
 generalize hW : World.setCell w _ _ = W1
 have h1 : Blk W1 rb 235 (RdrC s s.size (-1)) ∧ FrameG w W1 rb := by
  rw [← hW]
  exact ⟨HB.out.set_ 2 _, (FrameG.refl w rb).set _⟩
 clear hW c0 c1 c2
 obtain ⟨hb1, hf1⟩ := h1
 obtain ⟨c0, c1, c2⟩ := hb1.c3
 have fz1 : ∀ i, W1.frozen? ⟨rb, i, none⟩ = false := fun i => hb1.frozen i
 have hG1 : W1.cell? ⟨2, 0, none⟩ = some (.iface te ve) := (hf1.cell (by omega)).trans hG
 have HB1 := Lib.hid hb1
 have HF1 := Lib.hid hf1
 clear hb1 hf1 fz HB hG
 go_region
 go_wp2_with fail
 go_region
 go_wp2_with fail
 go_ret2
 exact ⟨rfl, HB1.out, HF1.out.drewG.drewG⟩
set_option maxRecDepth 100000 in
theorem unread_any (rb : Nat) (s : ByteArray) (p : Nat) (q : Int) (hp : 0 < p) (hp2 : p ≤ 140737488351232) (w : World) (hb : Blk w rb 235 (RdrC s p q)) :
  Calls Tryz.prog 282 #[.pointer (some ⟨rb, 0, none⟩)] w fun e w' => e = .returned .nilIface ∧ Blk w' rb 235 (RdrC s ((p : Int) - 1) (-1)) ∧ FrameG w w' rb := by
 obtain ⟨c0, c1, c2⟩ := hb.c3
 have fz : ∀ i, w.frozen? ⟨rb, i, none⟩ = false := fun i => hb.frozen i
 have HB := Lib.hid hb
 clear hb
 have hpi : (0 : Int) < p := by omega
 go_enter Tryz.func282, Tryz.ntmps282
 go_wp2_with fail
 go_ret
 exact ⟨rfl, (HB.out.set_ 2 _).set_ 1 _, ((FrameG.refl w rb).set _).set _⟩
@[go_sem] theorem me_205_ReadByte (p : Option Addr) (W : World) : (method 461 205 (.pointer p) "ReadByte").run Tryz.prog W = .ok (281, .pointer p) W := by kernel_rfl
@[go_sem] theorem me_205_UnreadByte (p : Option Addr) (W : World) : (method 461 205 (.pointer p) "UnreadByte").run Tryz.prog W = .ok (282, .pointer p) W := by kernel_rfl
set_option maxRecDepth 100000 in
/-- scanSign at a minus, and at a digit. -/
theorem sign_minus (rb : Nat) (s : ByteArray) (hs : s.size ≤ 140737488351232) (q : Int) (h0 : 0 < s.size) (hc : s[0].toNat = 45) (w : World) (hb : Blk w rb 235 (RdrC s 0 q)) :
  Calls Tryz.prog 178 #[.iface 205 (.pointer (some ⟨rb, 0, none⟩))] w fun e w' => e = .returned (.tuple #[.bool true, .nilIface]) ∧ Blk w' rb 235 (RdrC s 1 (-1)) ∧ FrameG w w' rb := by
 have h1 := read_any rb s hs 0 q h0 w hb
 have e1 : ((s[0].toNat : Int) == 45) = true := by rw [hc]; rfl
 have H1 := Lib.hid h1
 clear h1 hb hc
 go_enter Tryz.func178, Tryz.ntmps178
 go_wp2_with fail
 refine H1.out.mono ?_
 rintro e w1 ⟨rfl, hb, hf⟩
 have HB := Lib.hid hb
 clear hb
 go_wp2_with fail
 go_ret2
 exact ⟨rfl, HB.out, hf⟩
set_option maxRecDepth 100000 in
theorem sign_digit (rb : Nat) (s : ByteArray) (hs : s.size ≤ 140737488351232) (q : Int) (h0 : 0 < s.size) (hc : 48 ≤ s[0].toNat) (w : World) (hb : Blk w rb 235 (RdrC s 0 q)) :
  Calls Tryz.prog 178 #[.iface 205 (.pointer (some ⟨rb, 0, none⟩))] w fun e w' => e = .returned (.tuple #[.bool false, .nilIface]) ∧ Blk w' rb 235 (RdrC s 0 (-1)) ∧ FrameG w w' rb := by
 have h1 := read_any rb s hs 0 q h0 w hb
 have e1 : ((s[0].toNat : Int) == 45) = false := beq_eq_false_iff_ne.2 (by omega)
 have e2 : ((s[0].toNat : Int) == 43) = false := beq_eq_false_iff_ne.2 (by omega)
 have H1 := Lib.hid h1
 clear h1 hb hc
 go_enter Tryz.func178, Tryz.ntmps178
 go_wp2_with fail
 refine H1.out.mono ?_
 rintro e w1 ⟨rfl, hb, hf⟩
 have h2 := unread_any rb s 1 (-1) (by omega) (by omega) w1 hb
 have H2 := Lib.hid h2
 clear hb h2
 go_wp2_with fail
 refine H2.out.mono ?_
 rintro e w2 ⟨rfl, hb, hf2⟩
 have HB := Lib.hid hb
 clear hb
 go_wp2_with fail
 go_ret2
 exact ⟨rfl, HB.out, hf.trans hf2⟩
end Go.Proofs.YtammjbmfiakbnaaGreatDoor
namespace Go.Proofs.YtammjbmfiakbnaaGreatDoor
open Go.RowKit
set_option maxRecDepth 100000 in
theorem maxPow_any (w : World) : Calls Tryz.prog 206 #[.int .u64 10] w fun e w' => e = .returned (.tuple #[.int .u64 10000000000000000000, .int .i64 19]) ∧ w' = w := by
 go_enter Tryz.func206, Tryz.ntmps206
 go_wp2_with fail
 go_loopw [2, 3] (fun p n wr => ∃ k : Nat, 1 ≤ k ∧ k ≤ 19 ∧ p = .int .u64 ((10 ^ k : Nat) : Int) ∧ n = .int .i64 k ∧ wr = w) (fun _ n _ => 19 - (intOf n).toNat)
 case atStart => exact ⟨1, by omega, by omega, rfl, rfl, by first | trivial | rfl⟩
 case round =>
  obtain ⟨k, hk1, hk, rfl, rfl, hwr⟩ := hrel
  have hwr : w = wr := hwr.symm
  subst hwr
  by_cases hk19 : k = 19
  ·subst hk19
   go_wp2_with fail
   go_ret2
   exact ⟨rfl, rfl⟩
  ·have hp : (10 : Nat) ^ k ≤ 10 ^ 18 := Nat.pow_le_pow_right (by omega) (by omega)
   have hs : (10 : Nat) ^ (k + 1) = 10 ^ k * 10 := Nat.pow_succ _ _
   have hp1 : 0 < (10 : Nat) ^ k := Nat.pow_pos (by omega)
   have hI : ((10 ^ k : Nat) : Int) ≤ 1844674407370955161 := by omega
   have hI0 : (0 : Int) ≤ ((10 ^ k : Nat) : Int) := by omega
   generalize hx : (10 : Nat) ^ k = x at *
   go_wp2_with fail
   go_roundw
   case rel => exact ⟨k + 1, by omega, by omega, by rw [hs]; go_num, by go_num, by first | trivial | rfl⟩
   case measure => simp [intOf]; omega
theorem and1_i64 : ∀ y : Nat, y ≤ 18 → bits BinOp.and .i64 (y : Int) 1 = ((y % 2 : Nat) : Int) := by decide +kernel
theorem shr1_i64 (y : Nat) (W : World) : (Op.shift .shr .i64 (y : Int) .u64 1).run Tryz.prog W = .ok (.int .i64 ((y / 2 : Nat) : Int)) W := by
 simp [Op.shift, IntKind.bits, Int.fdiv_eq_ediv_of_nonneg]
set_option maxRecDepth 100000 in
theorem pow_any (i : Nat) (h1 : 1 ≤ i) (h2 : i ≤ 18) (w : World) : Calls Tryz.prog 208 #[.int .u64 10, .int .i64 i] w fun e w' => e = .returned (.int .u64 ((10 ^ i : Nat) : Int)) ∧ w' = w := by
 go_enter Tryz.func208, Tryz.ntmps208
 go_wp2_with fail
 go_loopw [0, 1, 4] (fun xv yv zv wr => ∃ x y z : Nat, y ≤ 18 ∧ x < 18446744073709551616 ∧ z < 18446744073709551616 ∧ xv = .int .u64 x ∧ yv = .int .i64 y ∧ zv = .int .u64 z ∧ (0 < y → 1 ≤ x ∧ z * x ^ y = 10 ^ i) ∧ (y = 0 → z = 10 ^ i) ∧ wr = w) (fun _ yv _ _ => (intOf yv).toNat)
 case atStart => exact ⟨10, i, 1, h2, by omega, by omega, rfl, rfl, rfl, fun _ => ⟨by omega, by omega⟩, fun h => by omega, by first | trivial | rfl⟩
 case round =>
  obtain ⟨x, y, z, hy, hx, hz, rfl, rfl, rfl, hA, hB, hwr⟩ := hrel
  have hwr : w = wr := hwr.symm
  subst hwr
  have HA := Lib.hid hA
  have HB := Lib.hid hB
  clear hA hB
  by_cases hy0 : (0 : Int) < y
  ·have hand := and1_i64 y hy
   have hsh := shr1_i64 y
   obtain ⟨hx1, hA⟩ := HA.out (by omega)
   have h10 : (10 : Nat) ^ i ≤ 10 ^ 18 := Nat.pow_le_pow_right (by omega) h2
   have hI0 : 0 < (10 : Nat) ^ i := Nat.pow_pos (by omega)
   have hzp : 0 < z := Nat.pos_of_ne_zero (fun e => by rw [e, Nat.zero_mul] at hA; omega)
   rcases Nat.mod_two_eq_zero_or_one y with hm | hm
   ·obtain ⟨q, hq2⟩ : ∃ q, y / 2 = q := ⟨_, rfl⟩
    have hy2 : y = 2 * q := by omega
    have hA' : z * (x * x) ^ q = 10 ^ i := by rw [← hA, hy2, Nat.pow_mul, Nat.pow_two]
    have hqp : 0 < q := by omega
    have hxx : x * x ≤ 10 ^ 18 := by
     have a1 : x * x ≤ (x * x) ^ q := Nat.le_self_pow (by omega) _
     have a2 : (x * x) ^ q ≤ z * (x * x) ^ q := Nat.le_mul_of_pos_left _ hzp
     omega
    have hxp : 1 ≤ x * x := Nat.mul_pos hx1 hx1
    have hxi : (x : Int) * x = ((x * x : Nat) : Int) := by omega
    have hd : ∀ W : World, (Op.shift .shr .i64 (y : Int) .u64 1).run Tryz.prog W = .ok (.int .i64 (q : Int)) W := fun W => by rw [hsh W, hq2]
    rw [hm] at hand
    have hand : bits BinOp.and .i64 (y : Int) 1 = 0 := hand
    generalize x * x = xx at hA' hxx hxp hxi
    have hxx2 : xx < 18446744073709551616 := by omega
    have HN := Lib.hid (And.intro hA' (And.intro hxp hy2))
    clear hA' hxp hy2 hsh hA HA HB hxx h10 hI0 hm hq2 hzp hx1
    go_wp2_with fail
    go_roundw
    case rel => exact ⟨xx, q, z, (by have := HN.out.2.2; omega), hxx2, hz, rfl, congrArg (Value.int .i64) (by have := HN.out.2.2; omega), rfl, fun _ => ⟨HN.out.2.1, HN.out.1⟩, fun h => by omega, by first | trivial | rfl⟩
    case measure => have := HN.out.2.2; simp [intOf]; omega
   ·obtain ⟨q, hq2⟩ : ∃ q, y / 2 = q := ⟨_, rfl⟩
    have hy2 : y = 2 * q + 1 := by omega
    have hA' : z * x * (x * x) ^ q = 10 ^ i := by rw [← hA, hy2, Nat.pow_succ, Nat.pow_mul, Nat.pow_two]; ac_rfl
    have hxq : 0 < (x * x) ^ q := Nat.pow_pos (Nat.mul_pos hx1 hx1)
    have hzx : z * x ≤ 10 ^ 18 := by
     have a2 : z * x ≤ z * x * (x * x) ^ q := Nat.le_mul_of_pos_right _ hxq
     omega
    have hzxi : (z : Int) * x = ((z * x : Nat) : Int) := by omega
    have hzxp : 0 < z * x := Nat.mul_pos hzp hx1
    have hd : ∀ W : World, (Op.shift .shr .i64 (y : Int) .u64 1).run Tryz.prog W = .ok (.int .i64 (q : Int)) W := fun W => by rw [hsh W, hq2]
    rw [hm] at hand
    have hand : bits BinOp.and .i64 (y : Int) 1 = 1 := hand
    have hxi : (x : Int) * x = ((x * x : Nat) : Int) := by omega
    have hxp : 1 ≤ x * x := Nat.mul_pos hx1 hx1
    have hxx : q ≠ 0 → x * x ≤ 10 ^ 18 := fun hq0 => by
     have a1 : x * x ≤ (x * x) ^ q := Nat.le_self_pow hq0 _
     have a2 : (x * x) ^ q ≤ z * x * (x * x) ^ q := Nat.le_mul_of_pos_left _ hzxp
     omega
    generalize x * x = xx at hA' hxx hxp hxi hxq
    generalize z * x = zx at hA' hzx hzxi hzxp hxx
    have hzx2 : zx < 18446744073709551616 := by omega
    by_cases hq0 : q = 0
    ·subst hq0
     simp only [Nat.pow_zero, Nat.mul_one] at hA'
     have HN := Lib.hid (And.intro hA' hy2)
     clear hA' hxp hy2 hsh hA HA HB hxx h10 hI0 hm hq2 hzp hx1 hxq hzxp hzx
     go_wp2_with fail
     go_roundw
     case rel => exact ⟨((xx : Int) % 18446744073709551616).toNat, 0, zx, by omega, by omega, by omega, by go_num, congrArg (Value.int .i64) (by have := HN.out.2; omega), by go_num, fun h => by omega, fun h => HN.out.1, by first | trivial | rfl⟩
     case measure => simp [intOf]; omega
    ·have hxx2 : xx < 18446744073709551616 := by have := hxx hq0; omega
     have HN := Lib.hid (And.intro hA' (And.intro hxp (And.intro hy2 hq0)))
     clear hA' hxp hy2 hsh hA HA HB hxx h10 hI0 hm hq2 hzp hx1 hxq hzxp hzx hq0
     go_wp2_with fail
     go_roundw
     case rel => exact ⟨xx, q, zx, (by have := HN.out.2.2.1; omega), hxx2, hzx2, rfl, congrArg (Value.int .i64) (by have := HN.out.2.2.1; omega), rfl, fun _ => ⟨HN.out.2.1, HN.out.1⟩, fun h => absurd h HN.out.2.2.2, by first | trivial | rfl⟩
     case measure => have := HN.out.2.2.1; simp [intOf]; omega
  ·obtain rfl : y = 0 := by omega
   have hB := HB.out rfl
   subst hB
   clear HA HB
   go_wp2_with fail
   go_ret
   exact ⟨rfl, rfl⟩
end Go.Proofs.YtammjbmfiakbnaaGreatDoor
namespace Go.Proofs.YtammjbmfiakbnaaGreatDoor
open Go.RowKit
theorem info196 : (Tryz.prog.info? 196).map (fun i => i.comparable) = some true := by kernel_rfl
theorem info198 : (Tryz.prog.info? 198).isSome = true := by kernel_rfl
/-- An error beside itself. -/
@[go_sem] theorem run_eof_eql (a : Addr) (w : World) : (binOp .eql 66 (.iface 196 (.pointer (some a))) (.iface 196 (.pointer (some a)))).run Tryz.prog w = .ok (.bool true) w := by
 obtain ⟨i, hi, hc⟩ := Option.map_eq_some_iff.1 info196
 obtain ⟨j, hj⟩ := Option.isSome_iff_exists.1 info198
 exact run_eql_iface_ptr_same w a Tryz.underlying66 Tryz.underlying196 hi hc hj
@[go_sem] theorem run_eof_neq (a : Addr) (w : World) : (binOp .neq 66 (.iface 196 (.pointer (some a))) (.iface 196 (.pointer (some a)))).run Tryz.prog w = .ok (.bool false) w := by
 obtain ⟨i, hi, hc⟩ := Option.map_eq_some_iff.1 info196
 obtain ⟨j, hj⟩ := Option.isSome_iff_exists.1 info198
 simp only [binOp]
 simp [Op.equal, Op.maxDepth, run_equalIn_iface_ptr_same w 9998 a Tryz.underlying66 Tryz.underlying196 hi hc hj]
theorem results_four {fn : Func} {t u v x : Tmp} (h : fn.results = #[.tmp t, .tmp u, .tmp v, .tmp x]) (tmps : Array Value) (P : Program) (w : World) :
  (results fn tmps).run P w = .ok (.tuple #[tmps.getD t undef, tmps.getD u undef, tmps.getD v undef, tmps.getD x undef]) w := by
 simp [results, h]
/-- The digits of s from p0 on. -/
structure DigAt (s : ByteArray) (p0 : Nat) (ds : List UInt8) : Prop where
 size : s.size = p0 + ds.length
 get : ∀ k (h : k < ds.length) (h' : p0 + k < s.size), s[p0 + k] = ds[k]
 dig : ∀ c ∈ ds, 48 ≤ c.toNat ∧ c.toNat ≤ 57
 ne : 0 < ds.length
 le : ds.length ≤ 40
 ple : p0 ≤ 1
/-- What the loop has read: k digits; the next one lies in ch, or the end has come. -/
def RdSt (s : ByteArray) (rb : Nat) (p0 : Nat) (ds : List UInt8) (A : Addr) (k : Nat) (err ch : Value) (wr : World) : Prop :=
 (∃ h : k < ds.length, err = .nilIface ∧ ch = .int .u8 (ds[k].toNat : Int) ∧ Blk wr rb 235 (RdrC s (p0 + k + 1 : Nat) (-1))) ∨
 (k = ds.length ∧ err = .iface 196 (.pointer (some A)) ∧ ch = .int .u8 0 ∧ Blk wr rb 235 (RdrC s s.size (-1)))
theorem RdSt.mono {s : ByteArray} {rb p0 : Nat} {ds : List UInt8} {A : Addr} {k : Nat} {err ch : Value} {w w' : World} (h : RdSt s rb p0 ds A k err ch w) (hb : w'.heap[rb]? = w.heap[rb]?) : RdSt s rb p0 ds A k err ch w' := by
 rcases h with ⟨h, h1, h2, h3⟩ | ⟨h, h1, h2, h3⟩
 ·exact .inl ⟨h, h1, h2, hb.trans h3⟩
 ·exact .inr ⟨h, h1, h2, hb.trans h3⟩
/-- One reading on. -/
theorem step_read {s : ByteArray} {p0 : Nat} {ds : List UInt8} (hd : DigAt s p0 ds) (rb : Nat) (hrb : rb ≠ 2) (k : Nat) (hk : k ≤ ds.length) (q : Int) (A : Addr) (w : World) (hb : Blk w rb 235 (RdrC s (p0 + k : Nat) q)) (hG : w.cell? ⟨2, 0, none⟩ = some (.iface 196 (.pointer (some A)))) :
  Calls Tryz.prog 281 #[.pointer (some ⟨rb, 0, none⟩)] w fun e w' => ∃ ch err, e = .returned (.tuple #[ch, err]) ∧ RdSt s rb p0 ds A k err ch w' ∧ FrameG w w' rb := by
 have hs := hd.size
 have hle := hd.le
 have hple := hd.ple
 by_cases h : k < ds.length
 ·refine (read_any rb s (by omega) (p0 + k) q (by omega) w hb).mono ?_
  rintro e w' ⟨rfl, h1, h2⟩
  exact ⟨_, _, rfl, .inl ⟨h, rfl, by rw [hd.get k h (by omega)], h1⟩, h2⟩
 ·obtain rfl : k = ds.length := by omega
  rw [← hs] at hb
  refine (read_end rb s (by omega) q w hb 196 _ hG hrb).mono ?_
  rintro e w' ⟨rfl, h1, h2⟩
  exact ⟨_, _, rfl, .inr ⟨rfl, rfl, rfl, h1⟩, h2⟩
/-- The loop's numbers. -/
structure ScN (ds : List UInt8) (k i d : Nat) (l : List Nat) : Prop where
 len : l.length ≤ k
 val : wVal l * 10 ^ i + d = decN (ds.take k)
 lt : d < 10 ^ i
theorem decN_take {ds : List UInt8} {k : Nat} (h : k < ds.length) : decN (ds.take (k + 1)) = decN (ds.take k) * 10 + (ds[k].toNat - 48) := by
 rw [List.take_add_one, List.getElem?_eq_getElem h]
 exact decN_snoc _ _
theorem ScN.next {ds : List UInt8} {k i d : Nat} {l : List Nat} (h : ScN ds k i d l) (hk : k < ds.length) (hc : 48 ≤ ds[k].toNat ∧ ds[k].toNat ≤ 57) : ScN ds (k + 1) (i + 1) (d * 10 + (ds[k].toNat - 48)) l := by
 refine ⟨by have := h.len; omega, ?_, ?_⟩
 ·rw [decN_take hk, ← h.val, Nat.pow_succ, Nat.add_mul, Nat.mul_assoc, Nat.add_assoc]
 ·have := h.lt
  rw [Nat.pow_succ]
  omega
theorem own_rest {w w2 : World} {base e size n : Nat} {v : Value} {xs : List Value} (h : w.ownsRow base e size v n xs) (hs : w.heap.size ≤ w2.heap.size) (ho : ∀ k, base ≤ k → k < w.heap.size → w2.heap[k]? = w.heap[k]?) : w2.ownsRow base e size v n xs := by
 obtain ⟨hl, h⟩ := h
 refine ⟨hl, ?_⟩
 rcases h with h | ⟨g, cap, cur, hv, hb, hg, hr⟩
 ·exact .inl h
 ·exact .inr ⟨g, cap, cur, hv, hb, (ho g hb (Array.getElem?_eq_some_iff.1 hg).1).trans hg, hr⟩
theorem NatW.rest {w w2 : World} {b0 : Nat} {v : Value} {l : List Nat} (h : NatW w b0 v l) (hs : w.heap.size ≤ w2.heap.size) (ho : ∀ k, b0 ≤ k → k < w.heap.size → w2.heap[k]? = w.heap[k]?) : NatW w2 b0 v l := ⟨own_rest h.1 hs ho, h.2⟩
theorem NatW.frame {w w2 : World} {b0 rb : Nat} {v : Value} {l : List Nat} (h : NatW w b0 v l) (hf : FrameG w w2 rb) (hr : rb < b0) : NatW w2 b0 v l := h.rest (Nat.le_of_eq hf.size.symm) fun k hk _ => hf.rest k (by omega)
theorem NatW.ge {w : World} {b0 k : Nat} {v : Value} {l : List Nat} (h : NatW w b0 v l) (hk : v.ownBlock = some k) : b0 ≤ k := own_ge h.1 hk
theorem ScN.flush {ds : List UInt8} {k d : Nat} {l l' : List Nat} (h : ScN ds k 19 d l) (hv : wVal l' = wVal l * 10000000000000000000 + d) (hl : l'.length ≤ l.length + 1) (hk : l.length + 1 ≤ k) : ScN ds k 0 0 l' := by
 refine ⟨by omega, ?_, by omega⟩
 rw [← h.val, hv]
 simp
set_option maxRecDepth 100000 in
set_option maxHeartbeats 2000000 in
theorem scan_any (s : ByteArray) (p0 : Nat) (ds : List UInt8) (hd : DigAt s p0 ds) (rb : Nat) (A : Addr) (w0 w : World) (hE : Ext w0 w) (h2 : 2 < w0.heap.size) (hrb0 : w0.heap.size ≤ rb) (q : Int) (hb : Blk w rb 235 (RdrC s p0 q))
  (hG : w0.cell? ⟨2, 0, none⟩ = some (.iface 196 (.pointer (some A)))) (hrb : rb < w.heap.size) :
  Calls Tryz.prog 179 #[.slice none 0 0, .iface 205 (.pointer (some ⟨rb, 0, none⟩)), .int .i64 10, .bool false] w fun e w' =>
   ∃ z l, e = .returned (.tuple #[z, .int .i64 10, .int .i64 ds.length, .nilIface]) ∧ NatW w' w.heap.size z l ∧ wVal l = decN ds ∧ l.length ≤ 41 ∧ Blk w' rb 235 (RdrC s s.size (-1)) ∧ Ext w0 w' ∧ (∀ k, k < w.heap.size → k ≠ rb → w'.heap[k]? = w.heap[k]?) := by
 have hr0 := step_read hd rb (by omega) 0 (Nat.zero_le _) q A w hb (hE.cellS hG)
 have H0 := Lib.hid hr0
 have HE := Lib.hid hE
 have HD := Lib.hid hd
 have HG := Lib.hid hG
 have hle := hd.le
 have hne := hd.ne
 clear hr0 hE hd hb hG
 go_enter Tryz.func179, Tryz.ntmps179
 go_wp2_with fail
 refine H0.out.mono ?_
 rintro e w1 ⟨ch, err, rfl, hst, hf⟩
 have HF := Lib.hid hf
 have HST := Lib.hid hst
 clear hst hf H0
 go_wp2_with fail
 refine (maxPow_any w1).mono ?_
 rintro e w2 ⟨rfl, rfl⟩
 go_wp2_with fail
 go_loopw [0, 3, 10, 11, 13, 14, 15, 20, 21, 22] (fun z fo cnt er pv inv c di iv dp wr => ∃ (k i d : Nat) (l : List Nat) (pc : Int), k ≤ ds.length ∧ i ≤ 18 ∧ fo = .bool false ∧ cnt = .int .i64 k ∧ pv = .int .i32 pc ∧ (pc == 95) = false ∧ inv = .bool false ∧ di = .int .u64 d ∧ iv = .int .i64 i ∧ dp = .int .i64 (-1) ∧
  RdSt s rb p0 ds A k er c wr ∧ ScN ds k i d l ∧ NatW wr w.heap.size z l ∧ Ext w0 wr ∧ w.heap.size ≤ wr.heap.size ∧ (∀ k, k < w.heap.size → k ≠ rb → wr.heap[k]? = w.heap[k]?)) (fun _ _ cnt er _ _ _ _ _ _ _ => 41 - (intOf cnt).toNat)
 case atStart =>
  have hE2 := HF.out.ext HE.out hrb0
  exact ⟨0, 0, 0, [], 46, by omega, by omega, rfl, rfl, rfl, by decide, rfl, rfl, rfl, rfl, HST.out, ⟨by simp, by simp [wVal, decN], by simp⟩, ⟨World.ownsRow_nil _ _ _ _, by simp, by simp [Nrm]⟩, hE2, by rw [HF.out.size]; exact Nat.le_refl _, fun k _ hn => HF.out.rest k hn⟩
 case round =>
  obtain ⟨k, i, d, l, pc, hk, hi, rfl, rfl, rfl, hpc, rfl, rfl, rfl, rfl, hst, hn, hz, hEr, hsz, hK⟩ := hrel
  have HK := Lib.hid hK
  clear hK
  have HN := Lib.hid hn
  have HZ := Lib.hid hz
  have HEr := Lib.hid hEr
  clear HF HST HE
  rcases hst with ⟨h, rfl, rfl, hb⟩ | ⟨rfl, rfl, rfl, hb⟩
  ·have hc := HD.out.dig _ (List.getElem_mem h)
   have hnx := Lib.hid (HN.out.next h hc)
   have hb' : Blk wr rb 235 (RdrC s (p0 + (k + 1) : Nat) (-1)) := hb
   have Hb := Lib.hid hb'
   have hdl : d < 10 ^ 18 := Nat.lt_of_lt_of_le HN.out.lt (Nat.pow_le_pow_right (by omega) hi)
   have hdI : (d : Int) ≤ 999999999999999999 := by omega
   obtain ⟨y, hy⟩ : ∃ y, ds[k].toNat = y + 48 := ⟨ds[k].toNat - 48, by omega⟩
   rw [hy] at hnx
   rw [hy]
   have hy9 : y ≤ 9 := by omega
   rw [show y + 48 - 48 = y from by omega] at hnx
   rw [show ((y + 48 : Nat) : Int) = (y : Int) + 48 from by omega]
   have e46 : ((y : Int) + 48 == 46) = false := beq_eq_false_iff_ne.2 (by omega)
   have e95 : ((y : Int) + 48 == 95) = false := beq_eq_false_iff_ne.2 (by omega)
   have hyI : (y : Int) ≤ 9 := by omega
   clear hn hz hEr hb hb' hc hy hdl
   by_cases hi18 : i = 18
   ·subst hi18
    have hdI2 : (d : Int) * 10 + y < 18446744073709551616 := by omega
    have hdI3 : (0 : Int) ≤ (d : Int) * 10 + y := by omega
    have hwm := mulAddWW_any u0 l 10000000000000000000 (d * 10 + y) w wr (by omega) (by omega) (by omega) hsz (by have := HN.out.len; omega) HZ.out
    have e1 : ((d * 10 + y : Nat) : Int) = (d : Int) * 10 + y := by omega
    rw [e1] at hwm
    have Hw := Lib.hid hwm
    clear hwm e1 hdI3 hdI2 hi
    rw [show ((18 : Nat) : Int) = 18 from rfl]
    go_wp2_with fail
    refine Hw.out.mono ?_
    rintro e w4 ⟨z', l', rfl, hz', hv', hl', hg'⟩
    have hrbz : u0.ownBlock ≠ some rb := fun e => by have := HZ.out.ge e; omega
    have hb4 : Blk w4 rb 235 (RdrC s (p0 + (k + 1) : Nat) (-1)) := (hg'.rest rb (by omega) hrbz).trans Hb.out
    have HK4 : Hid (∀ k, k < w.heap.size → k ≠ rb → w4.heap[k]? = w.heap[k]?) := Lib.hid fun k hk hn => (hg'.rest k (by omega) (fun e => by have := HZ.out.ge e; omega)).trans (HK.out k hk hn)
    have hE4 := hg'.ext HEr.out (fun k hk => by have := HZ.out.ge hk; have := HEr.out.size; omega)
    have hr := step_read HD.out rb (by omega) (k + 1) h (-1) A w4 hb4 (hE4.cellS HG.out)
    have Hr := Lib.hid hr
    have HZ4 := Lib.hid hz'
    have HE4 := Lib.hid hE4
    have hsz4 : w.heap.size ≤ w4.heap.size := Nat.le_trans hsz hg'.size
    have hnn := Lib.hid (hnx.out.flush hv' hl' (by have := HN.out.len; omega))
    clear hr hb4 hE4 hz' hv' hl' hg'
    go_wp2_with fail
    refine Hr.out.mono ?_
    rintro e w3 ⟨ch, err, rfl, hst, hf⟩
    have HST := Lib.hid hst
    have HF := Lib.hid hf
    clear hst hf
    go_wp2_with fail
    go_roundw
    case rel => exact ⟨k + 1, 0, 0, l', 48, by omega, by omega, rfl, by go_num, rfl, by decide, rfl, rfl, rfl, rfl, HST.out, hnn.out, HZ4.out.frame HF.out hrb, HF.out.ext HE4.out hrb0, by rw [HF.out.size]; exact hsz4, fun k hk hn => (HF.out.rest k hn).trans (HK4.out k hk hn)⟩
    case measure => simp [intOf]; omega
   ·have hi18' : ((i : Int) + 1 == 19) = false := beq_eq_false_iff_ne.2 (by omega)
    have hiI : (i : Int) ≤ 17 := by omega
    clear hi18
    have hr := step_read HD.out rb (by omega) (k + 1) h (-1) A wr Hb.out (HEr.out.cellS HG.out)
    have Hr := Lib.hid hr
    clear hr
    go_wp2_with fail
    refine Hr.out.mono ?_
    rintro e w3 ⟨ch, err, rfl, hst, hf⟩
    have HST := Lib.hid hst
    have HF := Lib.hid hf
    clear hst hf
    go_wp2_with fail
    go_roundw
    case rel => exact ⟨k + 1, i + 1, d * 10 + y, l, 48, by omega, by omega, rfl, by go_num, rfl, by decide, rfl, by go_num, by go_num, rfl, HST.out, hnx.out, HZ.out.frame HF.out hrb, HF.out.ext HEr.out hrb0, by rw [HF.out.size]; exact hsz, fun k hk hn => (HF.out.rest k hn).trans (HK.out k hk hn)⟩
    case measure => simp [intOf]; omega
  ·have Hb := Lib.hid hb
   have hneI : ((ds.length : Int) == 0) = false := beq_eq_false_iff_ne.2 (by omega)
   have hval := HN.out.val
   rw [List.take_length] at hval
   have Hval := Lib.hid hval
   have hGr := HEr.out.cellS HG.out
   clear hn hz hEr hb hval
   by_cases hi0 : i = 0
   ·subst hi0
    rw [show ((0 : Nat) : Int) = 0 from rfl]
    go_wp2_with fail
    obtain ⟨c, A', rfl⟩ : ∃ c A', u0 = .slice A' l.length c := by obtain ⟨A', c, h, -⟩ := ownB_slice HZ.out.1; exact ⟨c, A', h⟩
    (try simp only [Exit.inBlock, Exit.then])
    refine bodyPost_ret (results_four rfl _ _ _) rfl ?_
    exact ⟨_, l, rfl, HZ.out, by have h5 := Hval.out; have h6 := HN.out.lt; simp only [Nat.pow_zero, Nat.mul_one] at h5 h6; omega, by have := HN.out.len; omega, Hb.out, HEr.out, HK.out⟩
   ·have hiI : (0 : Int) < i := by omega
    have hpw := pow_any i (by omega) hi wr
    have Hp := Lib.hid hpw
    clear hpw hi0
    go_wp2_with fail
    refine Hp.out.mono ?_
    rintro e w3 ⟨rfl, rfl⟩
    have hpI : (10 : Nat) ^ i ≤ 10 ^ 18 := Nat.pow_le_pow_right (by omega) hi
    have hp0 : 0 < (10 : Nat) ^ i := Nat.pow_pos (by omega)
    have hlt := HN.out.lt
    have hwm := mulAddWW_any u0 l (10 ^ i) d w w3 (by omega) hp0 (by omega) hsz (by have := HN.out.len; omega) HZ.out
    have Hw := Lib.hid hwm
    clear hwm hp0 hpI hlt
    generalize (10 : Nat) ^ i = pw at *
    go_wp2_with fail
    refine Hw.out.mono ?_
    rintro e w4 ⟨z', l', rfl, hz', hv', hl', hg'⟩
    have hrbz : u0.ownBlock ≠ some rb := fun e => by have := HZ.out.ge e; omega
    have hb4 : Blk w4 rb 235 (RdrC s s.size (-1)) := (hg'.rest rb (by omega) hrbz).trans Hb.out
    have HK4 : Hid (∀ k, k < w.heap.size → k ≠ rb → w4.heap[k]? = w.heap[k]?) := Lib.hid fun k hk hn => (hg'.rest k (by omega) (fun e => by have := HZ.out.ge e; omega)).trans (HK.out k hk hn)
    have hE4 := hg'.ext HEr.out (fun k hk => by have := HZ.out.ge hk; have := HEr.out.size; omega)
    have HZ4 := Lib.hid hz'
    have HB4 := Lib.hid hb4
    have HE4 := Lib.hid hE4
    clear hz' hb4 hE4 hg' hrbz
    go_wp2_with fail
    obtain ⟨c, A', rfl⟩ : ∃ c A', z' = .slice A' l'.length c := by obtain ⟨A', c, h, -⟩ := ownB_slice HZ4.out.1; exact ⟨c, A', h⟩
    (try simp only [Exit.inBlock, Exit.then])
    refine bodyPost_ret (results_four rfl _ _ _) rfl ?_
    exact ⟨_, l', rfl, HZ4.out, by have := Hval.out; omega, by have := HN.out.len; omega, HB4.out, HE4.out, HK4.out⟩
end Go.Proofs.YtammjbmfiakbnaaGreatDoor
namespace Go.Proofs.YtammjbmfiakbnaaGreatDoor
open Go.RowKit
/-- A big.Int in memory: its sign and its words. -/
def BigAt (w : World) (b0 B : Nat) (n : Int) : Prop := ∃ (z : Value) (l : List Nat) (g : Bool), b0 ≤ B ∧ Blk w B 114 #[.bool g, z] ∧ NatW w (B + 1) z l ∧ l.length ≤ 41 ∧ n = (if g then -(wVal l : Int) else wVal l) ∧ (g = true → l ≠ [])
theorem own_weak {w : World} {b0 b1 n : Nat} {e : TypeId} {v : Value} {xs : List Value} (h : w.ownsRow b0 e 1 v n xs) (hb : b1 ≤ b0) : w.ownsRow b1 e 1 v n xs := by
 obtain ⟨hl, h⟩ := h
 refine ⟨hl, ?_⟩
 rcases h with h | ⟨g, cap, cur, hv, hb', hr⟩
 ·exact .inl h
 ·exact .inr ⟨g, cap, cur, hv, Nat.le_trans hb hb', hr⟩
theorem chs_get (s : ByteArray) (k : Nat) (h : k < s.size) (h' : k < (chs s).length) : (chs s)[k] = s[k] := by
 simp [chs]
 rfl
theorem chs_size (s : ByteArray) : (chs s).length = s.size := by simp [chs]
theorem digAt_pos {s : ByteArray} (h : Dig (chs s)) : DigAt s 0 (chs s) := by
 have hl := chs_size s
 refine ⟨by omega, fun k hk hk' => ?_, h.2.2.1, List.length_pos_iff.2 h.1, h.2.1, by omega⟩
 rw [chs_get s k (by omega)]
 congr 1
 omega
theorem digAt_neg {s : ByteArray} {r : List UInt8} (e : chs s = 45 :: r) (h : Dig r) : DigAt s 1 r ∧ ∃ h0 : 0 < s.size, s[0].toNat = 45 := by
 have hl := chs_size s
 rw [e] at hl
 simp at hl
 refine ⟨⟨by omega, fun k hk hk' => ?_, h.2.2.1, List.length_pos_iff.2 h.1, h.2.1, by omega⟩, by omega, ?_⟩
 ·have := chs_get s (1 + k) hk' (by rw [e]; simp; omega)
  rw [← this]
  have e2 : (chs s)[1 + k]? = r[k]? := by rw [e, Nat.add_comm]; rfl
  rw [List.getElem?_eq_getElem (by rw [e]; simp; omega), List.getElem?_eq_getElem hk] at e2
  exact Option.some.inj e2
 ·have := chs_get s 0 (by omega) (by rw [e]; simp)
  rw [← this]
  simp [e]
set_option maxRecDepth 100000 in
set_option maxHeartbeats 2000000 in
theorem intScan_any (s : ByteArray) (p0 : Nat) (ds : List UInt8) (hd : DigAt s p0 ds) (g : Bool) (rb B : Nat) (A : Addr) (w0 w : World) (hE : Ext w0 w) (h2 : 2 < w0.heap.size) (hB0 : w0.heap.size ≤ B) (hBrb : B < rb)
  (hb : Blk w rb 235 (RdrC s 0 (-1))) (hi : Blk w B 114 #[.bool false, .slice none 0 0]) (hG : w0.cell? ⟨2, 0, none⟩ = some (.iface 196 (.pointer (some A)))) (hrb : rb < w.heap.size)
  (hs : ∀ W : World, Blk W rb 235 (RdrC s 0 (-1)) → Calls Tryz.prog 178 #[.iface 205 (.pointer (some ⟨rb, 0, none⟩))] W fun e w' => e = .returned (.tuple #[.bool g, .nilIface]) ∧ Blk w' rb 235 (RdrC s p0 (-1)) ∧ FrameG W w' rb) :
  Calls Tryz.prog 135 #[.pointer (some ⟨B, 0, none⟩), .iface 205 (.pointer (some ⟨rb, 0, none⟩)), .int .i64 10] w fun e w' =>
   e = .returned (.tuple #[.pointer (some ⟨B, 0, none⟩), .int .i64 10, .nilIface]) ∧ BigAt w' w0.heap.size B (if g then -(decN ds : Int) else decN ds) ∧ Blk w' rb 235 (RdrC s s.size (-1)) ∧ Ext w0 w' ∧ (∀ z g, Blk w' B 114 #[.bool g, z] → z.ownBlock ≠ some rb) := by
 have H0 := Lib.hid (hs w hb)
 have HE := Lib.hid hE
 have HD := Lib.hid hd
 have HG := Lib.hid hG
 have HI := Lib.hid hi
 clear hs hE hd hG hb hi
 go_enter Tryz.func135, Tryz.ntmps135
 go_wp2_with fail
 refine H0.out.mono ?_
 rintro e w1 ⟨rfl, hb, hf⟩
 have hi1 := hf.blk (by omega) HI.out
 have hE1 := hf.ext HE.out (by omega)
 have hsc := scan_any s p0 ds HD.out rb A w0 w1 hE1 h2 (by omega) (-1) hb HG.out (by rw [hf.size]; exact hrb)
 obtain ⟨c0, c1⟩ := hi1.c2
 have hs1 : w1.heap.size = w.heap.size := hf.size
 have Hsc := Lib.hid hsc
 have HI1 := Lib.hid hi1
 have fz1 : ∀ i, w1.frozen? ⟨B, i, none⟩ = false := fun i => hi1.frozen i
 clear hsc hi1 hb hf
 go_wp2_with fail
 refine Hsc.out.mono ?_
 rintro e w2 ⟨z, l, rfl, hz, hv, hl, hb, hE2, hK⟩
 have hi2 : Blk w2 B 114 #[.bool false, .slice none 0 0] := (hK B (by omega) (by omega)).trans HI1.out
 obtain ⟨c20, c21⟩ := hi2.c2
 have fz2 : ∀ i, w2.frozen? ⟨B, i, none⟩ = false := fun i => hi2.frozen i
 obtain ⟨Az, cz, rfl, hcz⟩ := ownB_slice hz.1
 have HZ := Lib.hid hz
 have HB := Lib.hid hb
 have HE2 := Lib.hid hE2
 have HK := Lib.hid hK
 have HI2 := Lib.hid hi2
 clear hz hb hE2 hK hi2 c0 c1 fz1
 have fin : ∀ b : Bool, b = (decide (0 < l.length) && g) → ∀ W, W = (w2.setCell ⟨B, 1, none⟩ (.slice Az l.length cz)).setCell ⟨B, 0, none⟩ (.bool b) →
   BigAt W w0.heap.size B (if g then -(decN ds : Int) else decN ds) ∧ Blk W rb 235 (RdrC s s.size (-1)) ∧ Ext w0 W ∧ (∀ z g, Blk W B 114 #[.bool g, z] → z.ownBlock ≠ some rb) := by
  rintro b hb W rfl
  have hf : FrameG w2 ((w2.setCell ⟨B, 1, none⟩ (.slice Az l.length cz)).setCell ⟨B, 0, none⟩ (.bool b)) B := ((FrameG.refl w2 B).set _).set _
  refine ⟨⟨.slice Az l.length cz, l, b, hB0, (HI2.out.set_ 1 _).set_ 0 _, ?_, hl, ?_, ?_⟩, hf.blk (by omega) HB.out, hf.ext HE2.out hB0, fun z' g' hbl e => ?_⟩
  ·have h1 := HZ.out.frame hf (by omega)
   exact ⟨own_weak h1.1 (by omega), h1.2⟩
  ·by_cases hl0 : 0 < l.length
   ·have : b = g := by rw [hb]; simp [hl0]
    rw [this, hv]
   ·obtain rfl : l = [] := List.length_eq_zero_iff.1 (by omega)
    have : decN ds = 0 := hv.symm
    rw [this]
    simp [wVal]
  ·rintro rfl rfl
   simp at hb
  ·have h5 := hbl.cell 1
   have h6 := ((HI2.out.set_ 1 (.slice Az l.length cz)).set_ 0 (.bool b)).cell 1
   rw [h5] at h6
   have h7 : z' = .slice Az l.length cz := Option.some.inj h6
   rw [h7] at e
   have := HZ.out.ge e
   omega
 have Fin := Lib.hid fin
 clear fin hv
 by_cases hl0 : 0 < l.length
 ·have hl0' : (0 : Int) < l.length := by omega
  have ed : decide (0 < l.length) = true := by simp [hl0]
  rw [ed] at Fin
  clear hl0 ed
  cases g
  all_goals
   have F := Lib.hid (Fin.out _ rfl _ rfl)
   clear Fin
   go_wp2_with fail
   go_ret3
   exact ⟨rfl, by simpa using F.out⟩
 ·have F := Lib.hid (Fin.out false (by simp [hl0]) _ rfl)
  have hl0' : ¬ (0 : Int) < l.length := by omega
  clear Fin hl0
  cases g
  all_goals
   go_wp2_with fail
   go_ret3
   exact ⟨rfl, by simpa using F.out⟩
theorem BigAt.frame {w w' : World} {b0 B rb : Nat} {n : Int} (h : BigAt w b0 B n) (hf : FrameG w w' rb) (hb : rb ≠ B) (hr : ∀ z g, Blk w B 114 #[.bool g, z] → z.ownBlock ≠ some rb) : BigAt w' b0 B n := by
 obtain ⟨z, l, g, h0, h1, h2, h3⟩ := h
 refine ⟨z, l, g, h0, hf.blk hb.symm h1, ⟨?_, h2.2⟩, h3⟩
 have hz := hr z g h1
 obtain ⟨hl, h⟩ := h2.1
 refine ⟨hl, ?_⟩
 rcases h with h | ⟨g, cap, cur, hv, hb', hg, hq⟩
 ·exact .inl h
 ·exact .inr ⟨g, cap, cur, hv, hb', (hf.rest g (by rintro rfl; rw [hv] at hz; exact hz rfl)).trans hg, hq⟩
set_option maxRecDepth 100000 in
set_option maxHeartbeats 2000000 in
theorem setFrom_any (s : ByteArray) (p0 : Nat) (ds : List UInt8) (hd : DigAt s p0 ds) (g : Bool) (rb B : Nat) (A : Addr) (w0 w : World) (hE : Ext w0 w) (h2 : 2 < w0.heap.size) (hB0 : w0.heap.size ≤ B) (hBrb : B < rb)
  (hb : Blk w rb 235 (RdrC s 0 (-1))) (hi : Blk w B 114 #[.bool false, .slice none 0 0]) (hG : w0.cell? ⟨2, 0, none⟩ = some (.iface 196 (.pointer (some A)))) (hrb : rb < w.heap.size)
  (hs : ∀ W : World, Blk W rb 235 (RdrC s 0 (-1)) → Calls Tryz.prog 178 #[.iface 205 (.pointer (some ⟨rb, 0, none⟩))] W fun e w' => e = .returned (.tuple #[.bool g, .nilIface]) ∧ Blk w' rb 235 (RdrC s p0 (-1)) ∧ FrameG W w' rb) :
  Calls Tryz.prog 111 #[.pointer (some ⟨B, 0, none⟩), .iface 205 (.pointer (some ⟨rb, 0, none⟩)), .int .i64 10] w fun e w' =>
   e = .returned (.tuple #[.pointer (some ⟨B, 0, none⟩), .bool true]) ∧ BigAt w' w0.heap.size B (if g then -(decN ds : Int) else decN ds) ∧ Ext w0 w' := by
 have H0 := Lib.hid (intScan_any s p0 ds hd g rb B A w0 w hE h2 hB0 hBrb hb hi hG hrb hs)
 generalize (if g = true then -(decN ds : Int) else decN ds) = n at H0 ⊢
 have HD := Lib.hid hd
 have HG := Lib.hid hG
 clear hs hE hd hG hb hi
 go_enter Tryz.func111, Tryz.ntmps111
 go_wp2_with fail
 refine H0.out.mono ?_
 rintro e w1 ⟨rfl, hi, hb, hE, hz⟩
 have hr := step_read HD.out rb (by omega) ds.length (Nat.le_refl _) (-1) A w1 (by rw [← HD.out.size]; exact hb) (hE.cellS HG.out)
 have Hr := Lib.hid hr
 have HI := Lib.hid hi
 have HE := Lib.hid hE
 have HZ := Lib.hid hz
 clear hr hi hE hz hb
 go_wp2_with fail
 refine Hr.out.mono ?_
 rintro e w2 ⟨ch, err, rfl, hst, hf⟩
 rcases hst with ⟨h, -⟩ | ⟨-, rfl, rfl, -⟩
 ·omega
 have hE2 := hf.ext HE.out (by omega)
 have hg2 := hE2.cellS HG.out
 have HI2 := Lib.hid (HI.out.frame hf (by omega) HZ.out)
 have HE2 := Lib.hid hE2
 clear hf hE2
 go_wp2_with fail
 go_ret2
 exact ⟨rfl, HI2.out, HE2.out⟩
set_option maxRecDepth 100000 in
theorem newReader_any (s : ByteArray) (w : World) : Calls Tryz.prog 112 #[.string s] w fun e w' => e = .returned (.pointer (some ⟨w.heap.size, 0, none⟩)) ∧ w' = w.alloc (.cells (RdrC s 0 (-1)) 235) := by
 go_enter Tryz.func112, Tryz.ntmps112
 go_wp2_with fail
 go_ret
 exact ⟨rfl, rfl⟩
set_option maxRecDepth 100000 in
theorem setString_any (s : ByteArray) (hs : DigS (chs s)) (B : Nat) (A : Addr) (w0 w : World) (hE : Ext w0 w) (h2 : 2 < w0.heap.size) (hB0 : w0.heap.size ≤ B) (hi : Blk w B 114 #[.bool false, .slice none 0 0]) (hG : w0.cell? ⟨2, 0, none⟩ = some (.iface 196 (.pointer (some A)))) :
  Calls Tryz.prog 76 #[.pointer (some ⟨B, 0, none⟩), .string s, .int .i64 10] w fun e w' => e = .returned (.tuple #[.pointer (some ⟨B, 0, none⟩), .bool true]) ∧ BigAt w' w0.heap.size B (numOf (chs s)) ∧ Ext w0 w' := by
 have hBs := hi.lt
 have H : ∀ W, W = w.alloc (.cells (RdrC s 0 (-1)) 235) → Calls Tryz.prog 111 #[.pointer (some ⟨B, 0, none⟩), .iface 205 (.pointer (some ⟨w.heap.size, 0, none⟩)), .int .i64 10] W fun e w' =>
   e = .returned (.tuple #[.pointer (some ⟨B, 0, none⟩), .bool true]) ∧ BigAt w' w0.heap.size B (numOf (chs s)) ∧ Ext w0 w' := by
  rintro W rfl
  have hb : Blk (w.alloc (.cells (RdrC s 0 (-1)) 235)) w.heap.size 235 (RdrC s 0 (-1)) := Blk.new w 235 _
  have hr : w.heap.size < (w.alloc (.cells (RdrC s 0 (-1)) 235)).heap.size := by simp
  have hsz := chs_size s
  rcases hs with hd | ⟨r, e, hd, -⟩
  ·have h0 : 0 < s.size := by have := List.length_pos_iff.2 hd.1; omega
   have h40 := hd.2.1
   have hc : 48 ≤ s[0].toNat ∧ s[0].toNat ≤ 57 := by
    rw [← chs_get s 0 h0 (by omega)]
    exact hd.2.2.1 _ (List.getElem_mem _)
   have hn : numOf (chs s) = decN (chs s) := by
    have h5 := chs_get s 0 h0 (by omega)
    rcases he : chs s with _ | ⟨c, t⟩
    ·rfl
    ·have h6 : c = s[0] := by rw [← h5]; simp [he]
     simp only [numOf]
     rw [if_neg]
     rintro rfl
     rw [← h6] at hc
     exact absurd hc.1 (by decide)
   have := setFrom_any s 0 (chs s) (digAt_pos hd) false w.heap.size B A w0 _ (hE.alloc _) h2 hB0 hBs hb (hi.alloc _) hG hr (fun W hW => sign_digit w.heap.size s (by omega) (-1) h0 hc.1 W hW)
   rw [hn]
   exact this
  ·obtain ⟨hda, h0, hc⟩ := digAt_neg e hd
   have hl := hda.size
   have hle := hda.le
   have hn : numOf (chs s) = -(decN r : Int) := by rw [e]; rfl
   have := setFrom_any s 1 r hda true w.heap.size B A w0 _ (hE.alloc _) h2 hB0 hBs hb (hi.alloc _) hG hr (fun W hW => sign_minus w.heap.size s (by omega) (-1) h0 hc W hW)
   rw [hn]
   exact this
 have HH := Lib.hid H
 clear H hs hi hE hG
 go_enter Tryz.func76, Tryz.ntmps76
 go_wp2_with fail
 refine (newReader_any s w).mono ?_
 rintro e w1 ⟨rfl, hw1⟩
 have H1 := Lib.hid (HH.out w1 hw1)
 clear hw1 HH
 go_wp2_with fail
 refine H1.out.mono ?_
 rintro e w2 ⟨rfl, hi, hE⟩
 have HI := Lib.hid hi
 have HE := Lib.hid hE
 clear hi hE
 go_wp2_with fail
 go_ret2
 exact ⟨rfl, HI.out, HE.out⟩
set_option maxRecDepth 100000 in
/-- impl.whole. -/
theorem wholeBig_any (s : ByteArray) (hs : DigS (chs s)) (A : Addr) (w : World) (h2 : 2 < w.heap.size) (hG : w.cell? ⟨2, 0, none⟩ = some (.iface 196 (.pointer (some A)))) :
  Calls Tryz.prog 48 #[.string s] w fun e w' => e = .returned (.tuple #[.pointer (some ⟨w.heap.size, 0, none⟩), .bool true]) ∧ BigAt w' w.heap.size w.heap.size (numOf (chs s)) ∧ Ext w w' := by
 have H1 := Lib.hid (setString_any s hs w.heap.size A w (w.alloc (.cells #[.bool false, .slice none 0 0] 114)) ((Ext.refl w).alloc _) h2 (Nat.le_refl _) (Blk.new w 114 _) hG)
 clear hs hG
 go_enter Tryz.func48, Tryz.ntmps48
 go_wp2_with fail
 refine H1.out.mono ?_
 rintro e w2 ⟨rfl, hi, hE⟩
 have HI := Lib.hid hi
 have HE := Lib.hid hE
 clear hi hE
 go_wp2_with fail
 go_ret2
 exact ⟨rfl, HI.out, HE.out⟩
end Go.Proofs.YtammjbmfiakbnaaGreatDoor
namespace Go.Proofs.YtammjbmfiakbnaaGreatDoor
open Go
section
variable {P : Program} {ops : Array Oper} {Q : Exit → Act → World → Prop} {md : Region.Mode} {S : World → Prop} {N : Nat → Bool}
/-- One operation comes up, no other; its guard asks for it. -/
theorem wpAnyK_oneg (i : Nat) {o : Oper} {rest : List Oper} {fuel : Nat} {listed : Array Bool} {a : Act} {w : World} (hr : Region.ready md ops listed = [i]) (ho' : ops.toList.drop i = o :: rest) (hgd : Region.wanted o (yielded ops a.tmps) = true)
  (h : ∀ K' : Act → World → Prop, Shut (∀ a w, (N i = true → S w) → wpAnyK P md ops Q S N fuel (listed.setIfInBounds i true) a w → K' a w) → Oper.wp P o a w K' Q) : wpAnyK P md ops Q S N (fuel + 1) listed a w :=
 ⟨fun h0 => (by rw [h0] at hr; cases hr), fun j hj => by
  rw [hr] at hj
  obtain rfl : j = i := by simpa using hj
  refine wpOp_step (at_of_drop ho') (fun K' hK => ?_)
  rw [if_pos hgd]
  exact h K' (fun a w hS hW => hK a w ⟨hS, hW⟩)⟩
/-- One operation comes up, no other; its guard does not ask for it. -/
theorem wpAnyK_skip (i : Nat) {o : Oper} {rest : List Oper} {fuel : Nat} {listed : Array Bool} {a : Act} {w : World} (hr : Region.ready md ops listed = [i]) (ho' : ops.toList.drop i = o :: rest) (hgd : Region.wanted o (yielded ops a.tmps) = false)
  (hS : N i = true → S w) (h : wpAnyK P md ops Q S N fuel (listed.setIfInBounds i true) (a.put o.dst undef) w) : wpAnyK P md ops Q S N (fuel + 1) listed a w :=
 ⟨fun h0 => (by rw [h0] at hr; cases hr), fun j hj => by
  rw [hr] at hj
  obtain rfl : j = i := by simpa using hj
  refine wpOp_step (at_of_drop ho') (fun K' hK => ?_)
  rw [if_neg (by rw [hgd]; exact Bool.false_ne_true)]
  exact hK _ _ ⟨hS, h⟩⟩
end
end Go.Proofs.YtammjbmfiakbnaaGreatDoor
namespace Go.Proofs.YtammjbmfiakbnaaGreatDoor
open Go.RowKit
theorem size291 : (Tryz.prog.info? 291).map (·.size) = some 1 := by kernel_rfl
set_option maxRecDepth 100000 in
theorem make0_any (w : World) : Calls Tryz.prog 136 #[.slice none 0 0, .int .i64 0] w fun e w' => e = .returned (.slice none 0 0) ∧ w' = w := by
 go_enter Tryz.func136, Tryz.ntmps136
 go_wp2_with fail
 go_ret
 exact ⟨rfl, rfl⟩
set_option maxRecDepth 100000 in
theorem natSet_any (x : Value) (l : List Nat) (b0 : Nat) (hl : l.length ≤ 41) (w : World) (hx : NatW w b0 x l) :
  Calls Tryz.prog 113 #[.slice none 0 0, x] w fun e w' => ∃ z, e = .returned z ∧ NatW w' w.heap.size z l ∧ Ext w w' := by
 obtain ⟨ho, hw, hn⟩ := hx
 have HW := Lib.hid hw
 have HN := Lib.hid hn
 rcases Nat.eq_zero_or_pos l.length with h0 | h0
 ·obtain rfl : l = [] := List.length_eq_zero_iff.1 h0
  obtain ⟨A, c, rfl, hc⟩ := ownB_slice ho
  have hcp : ∀ ty W, (Builtin.copy_ #[112, 112] ty #[.slice none 0 0, .slice A 0 c]).run Tryz.prog W = .ok (goInt 0) W := fun ty W => run_copy_none W 112 112 ty 291 none A 0 0 0 c Tryz.underlying112 size291 rfl
  clear ho hw hn
  go_enter Tryz.func113, Tryz.ntmps113
  go_wp2_with fail
  refine (make0_any w).mono ?_
  rintro e w1 ⟨rfl, rfl⟩
  go_wp2_with fail
  go_ret
  exact ⟨_, rfl, ⟨World.ownsRow_nil _ _ _ _, HW.out, HN.out⟩, Ext.refl _⟩
 ·obtain ⟨gx, cx, rfl, hgx⟩ := own_form1 ho h0
  have hm := make_any none 0 0 l.length (Nat.le_refl _) (by unfold maxLen; omega) (fun h => by omega) h0 (by omega) w
  have Hm := Lib.hid hm
  have HO := Lib.hid ho
  have hl0 : (0 : Int) < l.length := by omega
  clear ho hw hn hm
  go_enter Tryz.func113, Tryz.ntmps113
  go_wp2_with fail
  refine Hm.out.mono ?_
  rintro e w1 ⟨v', rfl, hq⟩
  rcases hq with ⟨h1, -⟩ | ⟨-, c', h2, h3, rfl, rfl⟩
  ·omega
  have hb : Blk (w.alloc (.cells (madeCells #[wd 0] c') 291)) w.heap.size 291 (madeCells #[wd 0] c') := Blk.new w 291 _
  have hsz : (madeCells #[wd 0] c').size = c' := by rw [size_madeCells]
  have hcp : ∀ ty, (Builtin.copy_ #[112, 112] ty #[.slice (some ⟨w.heap.size, 0, none⟩) l.length c', .slice (some ⟨gx, 0, none⟩) l.length cx]).run Tryz.prog (w.alloc (.cells (madeCells #[wd 0] c') 291)) = .ok (.int .i64 l.length) ((w.alloc (.cells (madeCells #[wd 0] c') 291)).setRow w.heap.size (l.map wd ++ (madeCells #[wd 0] c').toList.drop l.length).toArray) := fun ty => by
   have := run_copy_row (P := Tryz.prog) (w.alloc (.cells (madeCells #[wd 0] c') 291)) 112 112 ty 291 w.heap.size 0 l.length c' ⟨gx, 0, none⟩ l.length cx (madeCells #[wd 0] c') 291 (l.map wd) Tryz.underlying112 size291 hb (by simp) (fun j v hj => by
    have hadd : (⟨gx, 0, none⟩ : Addr).add j = ⟨gx, j, none⟩ := by unfold Addr.add; split <;> simp_all
    rw [hadd]
    exact ((Ext.refl w).alloc _).cellS (own_get HO.out hj).1) (by rw [hsz]; simp; omega) (by intro u hu; simp only [List.mem_map] at hu; obtain ⟨y, _, rfl⟩ := hu; rfl)
   rw [this]
   simp [goInt]
  have hW : ∀ W, W = ((w.alloc (.cells (madeCells #[wd 0] c') 291)).setRow w.heap.size (l.map wd ++ (madeCells #[wd 0] c').toList.drop l.length).toArray) →
    NatW W w.heap.size (.slice (some ⟨w.heap.size, 0, none⟩) l.length c') l ∧ Ext w W := by
   rintro W rfl
   refine ⟨⟨⟨by simp, .inr ⟨w.heap.size, c', _, rfl, Nat.le_refl _, setRow_heap _ _ _ _ 291 _ hb, h2, by unfold maxLen; omega, ?_, ?_⟩⟩, HW.out, HN.out⟩, ⟨rfl, rfl, rfl, by simp [World.setRow], fun k hk => ?_⟩⟩
   ·simp [hsz]; omega
   ·simp
   ·rw [setRow_other _ _ _ _ (by omega)]
    exact ((Ext.refl w).alloc _).block k hk
  have HWW := Lib.hid hW
  clear hW hb hsz
  go_wp2_with fail
  generalize hg : World.setRow _ _ _ = W1
  obtain ⟨h1, h2⟩ := HWW.out W1 hg.symm
  have H1 := Lib.hid h1
  clear h1 hg hcp
  go_wp2_with fail
  go_ret
  exact ⟨_, rfl, H1.out, h2⟩
theorem info114 : (Tryz.prog.info? 114).map (fun i => decide (i.size ≠ 0)) = some true := by kernel_rfl
theorem run_neq_ptr_other (w : World) {a b : Addr} {ca cb : Array Value} {ta tb : TypeId} (hne : a ≠ b) (ha : w.heap[a.block]? = some (.cells ca ta (0, 0))) (hb : w.heap[b.block]? = some (.cells cb tb (0, 0))) :
  (binOp .neq 108 (.pointer (some a)) (.pointer (some b))).run Tryz.prog w = .ok (.bool true) w := by
 obtain ⟨j, hte, hsz⟩ := Option.map_eq_some_iff.1 info114
 have hsz : j.size ≠ 0 := by simpa using hsz
 have h : ∀ d : Nat, (Op.equalIn (d + 1) 108 (.pointer (some a)) (.pointer (some b))).run Tryz.prog w = .ok false w := fun d => by
  simp [Op.equalIn, run_underlying Tryz.underlying108, sizeOf, typeInfo, hte, hsz, run_sameAddr_other w hne ha hb]
 simp only [binOp]
 simp [Op.equal, Op.maxDepth, h 9999]
set_option maxRecDepth 100000 in
/-- Int.Set into a new decimal. -/
theorem intSet_any (D B b0 : Nat) (n : Int) (sc : Value) (w0 w : World) (hE : Ext w0 w) (hD0 : w0.heap.size ≤ D) (hD : Blk w D 116 #[.bool false, .slice none 0 0, sc]) (hB : BigAt w b0 B n) :
  Calls Tryz.prog 77 #[.pointer (some ⟨D, 0, none⟩), .pointer (some ⟨B, 0, none⟩)] w fun e w' => e = .returned (.pointer (some ⟨D, 0, none⟩)) ∧
   ∃ (z : Value) (l : List Nat) (g : Bool), Blk w' D 116 #[.bool g, z, sc] ∧ NatW w' w.heap.size z l ∧ l.length ≤ 41 ∧ n = (if g then -(wVal l : Int) else wVal l) ∧ (g = true → l ≠ []) ∧ Ext w0 w' := by
 obtain ⟨x, l, g, hB0, hBl, hx, hl, hn, hg⟩ := hB
 have hne : B ≠ D := by
  rintro rfl
  have e : some _ = some _ := hBl.symm.trans hD
  simp at e
 have hq := run_neq_ptr_other w (a := ⟨D, 0, none⟩) (b := ⟨B, 0, none⟩) (by intro e; injection e with e; exact hne e.symm) hD hBl
 obtain ⟨xA, xc, rfl, -⟩ := ownB_slice hx.1
 have hxd : NatW w.drew (B + 1) (.slice xA l.length xc) l := hx
 have HC := Lib.hid (natSet_any _ l (B + 1) hl w.drew hxd)
 have HD := Lib.hid hD
 have HB := Lib.hid hBl
 have HX := Lib.hid hx
 have HE := Lib.hid hE
 have Hn := Lib.hid hn
 have Hg := Lib.hid hg
 have hDl := hD.lt
 obtain ⟨c0, c1, c2⟩ := hD.c3
 obtain ⟨d0, d1⟩ := hBl.c2
 have fz : ∀ i, w.frozen? ⟨D, i, none⟩ = false := fun i => hD.frozen i
 clear hxd hD hBl hx hE hn hg
 generalize hxn : l.length = xn at *
 go_enter Tryz.func77, Tryz.ntmps77
 go_wp2_with fail
 refine wp_region_K (fun w' => w'.cell? ⟨D, 1, none⟩ = some (.slice none 0 0) ∧ w'.cell? ⟨B, 1, none⟩ = some (.slice xA xn xc)) (ix [4, 8]) 13 [false, false, false, false, false, false, false, false, false, false, false, false, false] (by kernel_rfl) rfl rfl ?_
 refine fV 0 (v := ?v2Lx0) rfl (by rfl) ?y2Lx0 ?_
 case y2Lx0 => intro w; go_simp; with_reducible rfl
 simp only [aP, aN, aT, aZ, aS]
 refine fV 1 (v := ?v2Lx1) rfl (by rfl) ?y2Lx1 ?_
 case y2Lx1 => intro w; go_simp; with_reducible rfl
 simp only [aP, aN, aT, aZ, aS]
 refine fV 5 (v := ?v2Lx5) rfl (by rfl) ?y2Lx5 ?_
 case y2Lx5 => intro w; go_simp; with_reducible rfl
 simp only [aP, aN, aT, aZ, aS]
 refine fV 2 (v := ?v2Lx2) rfl (by rfl) ?y2Lx2 ?_
 case y2Lx2 => intro w; go_simp; with_reducible rfl
 simp only [aP, aN, aT, aZ, aS]
 refine fV 6 (v := ?v2Lx6) rfl (by rfl) ?y2Lx6 ?_
 case y2Lx6 => intro w; go_simp; with_reducible rfl
 simp only [aP, aN, aT, aZ, aS]
 refine fV 3 (v := ?v2Lx3) rfl (by rfl) ?y2Lx3 ?_
 case y2Lx3 => intro w; go_simp; with_reducible rfl
 simp only [aP, aN, aT, aZ, aS]
 refine fV 7 (v := ?v2Lx7) rfl (by rfl) ?y2Lx7 ?_
 case y2Lx7 => intro w; go_simp; with_reducible rfl
 simp only [aP, aN, aT, aZ, aS]
 refine tV 4 (rg 9 12) (v := ?v2Lx4) rfl ⟨c1, d1⟩ (by rfl) ?y2Lx4 ?_
 case y2Lx4 => rintro w ⟨s1, s2⟩; go_simp; with_reducible rfl
 simp only [aP, aN, aT, aZ, aS]
 refine tV 8 (rg 9 12) (v := ?v2Lx8) rfl ⟨c1, d1⟩ (by rfl) ?y2Lx8 ?_
 case y2Lx8 => rintro w ⟨s1, s2⟩; go_simp; with_reducible rfl
 simp only [aP, aN, aT, aZ, aS]
 refine wpAnyK_oneg 9 (by kernel_rfl) rfl (by rfl) (fun K' hK => ?_)
 go_simp
 refine HC.out.mono ?_
 rintro e w2 ⟨z, rfl, hz, hE2⟩
 have hE2 : Ext w w2 := (Ext.refl w).drew.trans hE2
 have hD2 := HD.out.ext hE2
 have hB2 := HB.out.ext hE2
 obtain ⟨c20, c21, c22⟩ := hD2.c3
 obtain ⟨d20, d21⟩ := hB2.c2
 have fz2 : ∀ i, w2.frozen? ⟨D, i, none⟩ = false := fun i => hD2.frozen i
 obtain ⟨zA, zc, rfl, -⟩ := ownB_slice hz.1
 rw [hxn] at hz
 have HZ := Lib.hid hz
 have HE2 := Lib.hid hE2
 have HD2 := Lib.hid hD2
 have HB2 := Lib.hid hB2
 clear hz hE2 hD2 hB2
 refine hK.out _ _ (fun h => absurd h (by decide)) ?_
 clear hK K'
 simp only [aP, aN, aT, aZ, aS]
 refine fV 10 (v := ?v2Mx10) rfl (by rfl) ?y2Mx10 ?_
 case y2Mx10 => intro w; go_simp; with_reducible rfl
 simp only [aP, aN, aT, aZ, aS]
 refine fV 11 (v := ?v2Mx11) rfl (by rfl) ?y2Mx11 ?_
 case y2Mx11 => intro w; go_simp; with_reducible rfl
 simp only [aP, aN, aT, aZ, aS]
 refine wpAnyK_oneg 12 (by kernel_rfl) rfl (by rfl) (fun K' hK => ?_)
 go_simp
 refine hK.out _ _ (fun h => absurd h (by decide)) ?_
 clear hK K'
 simp only [aP, aN, aT, aZ, aS]
 refine wpAnyK_done (by kernel_rfl) ?_ _
 generalize hW : World.setCell _ _ _ = W1
 have h1 : Blk W1 D 116 #[.bool false, .slice zA xn zc, sc] ∧ Blk W1 B 114 #[.bool g, .slice xA xn xc] ∧ FrameG w2 W1 D := by
  rw [← hW]
  exact ⟨HD2.out.set_ 1 _, ((FrameG.refl w2 D).set _).blk hne HB2.out, (FrameG.refl w2 D).set _⟩
 clear hW c20 c21 c22 d20 d21 fz2 c0 c1 c2 d0 d1 fz
 obtain ⟨h1, h2, h3⟩ := h1
 obtain ⟨c0, c1, c2⟩ := h1.c3
 obtain ⟨d0, d1⟩ := h2.c2
 have fz : ∀ i, W1.frozen? ⟨D, i, none⟩ = false := fun i => h1.frozen i
 have H1 := Lib.hid h1
 have H3 := Lib.hid h3
 clear h1 h2 h3
 go_wp2_with fail
 go_ret
 have hf : FrameG w2 (W1.setCell ⟨D, 0, none⟩ (.bool g)) D := H3.out.set _
 exact ⟨rfl, .slice zA xn zc, l, g, H1.out.set_ 0 _, HZ.out.frame hf hDl, by omega, Hn.out, Hg.out, hf.ext (HE.out.trans HE2.out) hD0⟩
set_option maxRecDepth 100000 in
/-- gocql.NewDecBig. -/
theorem newDec_any (B b0 : Nat) (n scl : Int) (w : World) (hB : BigAt w b0 B n) :
  Calls Tryz.prog 49 #[.pointer (some ⟨B, 0, none⟩), .int .i32 scl] w fun e w' => e = .returned (.pointer (some ⟨w.heap.size, 0, none⟩)) ∧
   ∃ (z : Value) (l : List Nat) (g : Bool), Blk w' w.heap.size 116 #[.bool g, z, .int .i32 scl] ∧ NatW w' (w.heap.size + 1) z l ∧ l.length ≤ 41 ∧ n = (if g then -(wVal l : Int) else wVal l) ∧ (g = true → l ≠ []) ∧ Ext w w' := by
 have hB' : BigAt (w.alloc (.cells #[.bool false, .slice none 0 0, .int .i32 scl] 116)) b0 B n := by
  obtain ⟨z, l, g, h0, h1, h2, h3⟩ := hB
  exact ⟨z, l, g, h0, h1.alloc _, ⟨ownsRow_ext h2.1 ((Ext.refl w).alloc _), h2.2⟩, h3⟩
 have hc := intSet_any w.heap.size B b0 n (.int .i32 scl) w (w.alloc (.cells #[.bool false, .slice none 0 0, .int .i32 scl] 116)) ((Ext.refl w).alloc _) (Nat.le_refl _) (Blk.new w 116 _) hB'
 have e1 : (w.alloc (.cells #[.bool false, .slice none 0 0, .int .i32 scl] 116)).heap.size = w.heap.size + 1 := by simp
 rw [e1] at hc
 have HC := Lib.hid hc
 clear hc hB hB' e1
 go_enter Tryz.func49, Tryz.ntmps49
 go_wp2_with fail
 refine HC.out.mono ?_
 rintro e w1 ⟨rfl, h⟩
 have H := Lib.hid h
 clear h
 go_wp2_with fail
 go_ret
 exact ⟨rfl, H.out⟩
end Go.Proofs.YtammjbmfiakbnaaGreatDoor
