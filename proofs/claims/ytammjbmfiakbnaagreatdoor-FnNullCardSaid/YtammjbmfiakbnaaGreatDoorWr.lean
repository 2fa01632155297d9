/-
  The reference's writer: 'put' and 'bytes' append to what it has written. Conditions: the writer is one of the call's own; at most 2^40 bytes in all.
-/
import Derived.Test.YtammjbmfiakbnaaGreatDoorFacts
import Derived.Test.YtammjbmfiakbnaaGreatDoorEnc
import Derived.Outline
import Derived.Deep.RegionHeld3
import Derived.Deep.RegionLaw
import Derived.Deep.RegionLawGrows
import Derived.Deep.DrawnRows
import Derived.Deep.AppendLies
import Derived.Deep.QuietTactic
import Derived.BigQuiet
import Derived.Lib.Hide
import Derived.IntWalk
import Derived.Deep.Cut
namespace Go.Proofs.YtammjbmfiakbnaaGreatDoor
open Go.RowKit
attribute [local go_sem ↓] Go.wp_at_zero Go.wp_at_succ

theorem info5 : (Tryz.prog.info? 5).map (fun i => (i.zero, i.size, i.bytes)) = some (some (.int .u8 0), 1, 1) := by kernel_rfl

/-- Variable p of the writer's type holds a slice of the call's own (from block b0 on) that reads as l. -/
def Wr (w : World) (b0 p : Nat) (l : List UInt8) : Prop :=
  b0 ≤ p ∧ ∃ g c, Blk w p 70 #[.slice (some ⟨g, 0, none⟩) l.length c] ∧ w.ownsRow b0 5 1 (.slice (some ⟨g, 0, none⟩) l.length c) l.length (l.map byteV)

/-- The k lowest bytes of a number, the highest first. -/
def beN (n : Int) : Nat → List UInt8
  | 0 => []
  | k + 1 => bt (n / 256 ^ k) :: beN n k
theorem beN_length (n : Int) (k : Nat) : (beN n k).length = k := by
  induction k with
  | zero => rfl
  | succ k ih => simp [beN, ih]

theorem ownsRow_ext {w w1 : World} {base : Nat} {e : TypeId} {size n : Nat} {v : Value} {xs : List Value} (h : w.ownsRow base e size v n xs) (he : Ext w w1) : w1.ownsRow base e size v n xs := by
  obtain ⟨h1, h2⟩ := h
  refine ⟨h1, ?_⟩
  rcases h2 with h2 | ⟨g, cap, cur, hv, hb, hg, r⟩
  · exact .inl h2
  · refine .inr ⟨g, cap, cur, hv, hb, ?_, r⟩
    rw [he.block g ?_]
    · exact hg
    · rcases Nat.lt_or_ge g w.heap.size with hl | hge
      · exact hl
      · rw [Array.getElem?_eq_none hge] at hg; cases hg
theorem Wr.ext {w w1 : World} {b0 p : Nat} {l : List UInt8} (h : Wr w b0 p l) (he : Ext w w1) : Wr w1 b0 p l := by
  obtain ⟨h0, g, c, hb, ho⟩ := h
  exact ⟨h0, g, c, hb.ext he, ownsRow_ext ho he⟩

theorem shr_i64 (n : Int) (j : Nat) (hj : j ≤ 7) (W : World) : (Op.shift .shr .i64 n .i64 (8 * (j : Int))).run Tryz.prog W = .ok (.int .i64 (n / 256 ^ j)) W := by
  have h2 : (8 * (j : Int)).toNat = 8 * j := by omega
  have h3 : min (8 * j) 64 = 8 * j := by omega
  have h4 : ¬ (8 * (j : Int)) < 0 := by omega
  have e : (2 : Int) ^ (8 * j) = 256 ^ j := by rw [Int.pow_mul]; rfl
  have e2 : (256 : Int) ^ j ≥ 0 := by rw [← e]; exact Int.pow_nonneg (by decide)
  simp [Op.shift, h4, IntKind.bits, h2, h3, e, Int.fdiv_eq_ediv_of_nonneg _ e2]

theorem put_step {w wr w1 : World} {b0 p g gg cap cap1 : Nat} {c : List UInt8} {m : Int} (hbel : Below b0 w wr) (hb0 : b0 ≤ p) (hgp : g ≠ p) (hlt : p < wr.heap.size)
    (Hb : Blk wr p 70 #[.slice (some ⟨g, 0, none⟩) c.length cap]) (Ho : wr.ownsRow b0 5 1 (.slice (some ⟨g, 0, none⟩) c.length cap) c.length (c.map byteV)) (o : Obj)
    (hown1 : w1.ownsRow b0 5 1 (.slice (some ⟨gg, 0, none⟩) (c.length + 1) cap1) (c.length + 1) (c.map byteV ++ [.int .u8 (m % 256)]))
    (hgrow : ((wr.alloc o).drew).grownBy w1 (some g)) (hat : some g = some gg ∨ gg = wr.heap.size + 1) :
    Wr (w1.setCell ⟨p, 0, none⟩ (.slice (some ⟨gg, 0, none⟩) (c.length + 1) cap1)) b0 p (c ++ [bt m]) ∧ Below b0 w (w1.setCell ⟨p, 0, none⟩ (.slice (some ⟨gg, 0, none⟩) (c.length + 1) cap1)) := by
  have hg0 : b0 ≤ g := by
    rcases Ho.2 with ⟨h, _⟩ | ⟨g', _, _, h, hb, _⟩
    · cases h
    · injection h with h; injection h with h; injection h with h; subst h; exact hb
  have hggp : gg ≠ p := by
    rcases hat with h | h
    · injection h with h; omega
    · omega
  have hw1 : Blk w1 p 70 #[.slice (some ⟨g, 0, none⟩) c.length cap] := (hgrow.block p (by simp; omega) (by simp; omega)).trans ((Hb.alloc o).drew)
  have hs := hw1.set_ 0 (.slice (some ⟨gg, 0, none⟩) (c.length + 1) cap1)
  refine ⟨⟨hb0, gg, cap1, by simpa using hs, ?_⟩, ?_⟩
  · obtain ⟨h1, h2⟩ := hown1
    refine ⟨by simp, ?_⟩
    rcases h2 with ⟨h, _⟩ | ⟨g', cap', cur, hv, hb, hg, r⟩
    · cases h
    · refine .inr ⟨g', cap', cur, by simpa using hv, hb, ?_, ?_⟩
      · injection hv with hv; injection hv with hv; injection hv with hv; subst hv
        rw [Below.heap_setCell _ _ _ _ (by simpa using hggp)]
        exact hg
      · simpa [byteV_bt] using r
  · have h2 : Below b0 w ((wr.alloc o).drew) := Below.drew (Below.alloc hbel (by omega) o)
    have h3 : Below b0 w w1 := Below.grown h2 hgrow (by simp; omega) (by intro k hk; injection hk with hk; omega)
    exact Below.setCell h3 hb0 _

set_option maxRecDepth 100000 in
set_option maxHeartbeats 1600000 in
theorem put_any (n : Int) (k : Nat) (hk : k ≤ 8) (b0 p : Nat) (l : List UInt8) (hl : l.length ≤ 1099511627776) (w : World) (h : Wr w b0 p l) :
    Calls Tryz.prog 29 #[.pointer (some ⟨p, 0, none⟩), .int .i64 n, .int .i64 k] w fun e w' => e = .returned (.tuple #[]) ∧ Wr w' b0 p (l ++ beN n k) ∧ Below b0 w w' := by
  obtain ⟨i0, hi0, hz0, hz1, hz2⟩ := info_parts info5
  have H := Lib.hid h
  clear h
  go_enter Tryz.func29, Tryz.ntmps29
  go_wp2_with fail
  go_loopw [6] (fun v wr => ∃ (j : Nat) (i : Int), j ≤ k ∧ i + 1 = j ∧ v = .int .i64 i ∧ ∃ c, c.length + j = l.length + k ∧ c ++ beN n j = l ++ beN n k ∧ Wr wr b0 p c ∧ Below b0 w wr) (fun v _ => (intOf v + 1).toNat)
  case atStart => exact ⟨k, _, Nat.le_refl _, by omega, rfl, l, rfl, rfl, H.out, Below.refl _ _⟩
  case round =>
    obtain ⟨j, i, hj, hi, rfl, c, hcl, hc, hwr, hbel⟩ := hrel
    cases j with
    | zero =>
      obtain rfl : i = -1 := by omega
      have Hwr := Lib.hid hwr
      have Hc := Lib.hid hc
      clear hwr hc hcl
      go_wp2_with fail
      go_end0
      have := Hc.out
      simp only [beN, List.append_nil] at this
      exact ⟨rfl, this ▸ Hwr.out, hbel⟩
    | succ j =>
      obtain rfl : i = (j : Int) := by omega
      obtain ⟨hb0, g, cap, hb, ho⟩ := hwr
      obtain ⟨c0, c1⟩ := hb.c1
      have hlt := hb.lt
      have hsh := shr_i64 n j (by omega)
      have hpw : n / 2 ^ (8 * (j : Int)).toNat = n / 256 ^ j := by rw [show (8 * (j : Int)).toNat = 8 * j by omega, Int.pow_mul]; rfl
      have hu8 : IntKind.u8.wrap (n / 256 ^ j) = n / 256 ^ j % 256 := by rw [IntKind.wrap_u8]
      have hnw := World.new_ne wr ⟨p, 0, none⟩ c0
      have hw8 : IntKind.i64.wrap (8 * (j : Int)) = 8 * (j : Int) := IntWalk.i64_in _ (by omega)
      have hgp : g ≠ p := by
        rcases ho.2 with ⟨h, _⟩ | ⟨g', _, _, h, _, hg, _⟩
        · cases h
        · injection h with h
          injection h with h
          injection h with h
          subst h
          exact Blk.ne (t := 5) hg hb (by decide)
      have Hb := Lib.hid hb
      have Ho := Lib.hid ho
      have Hc := Lib.hid hc
      have Hcl := Lib.hid hcl
      have hcb : c.length ≤ 1099511627776 + 8 := by omega
      clear hb ho hc hcl
      go_wp2_with fail
      go_region_law
        ((refine step_append_lies _ (by rfl) _ _ _ (by rfl) b0 5 i0 _ 1 1 Tryz.underlying70 hi0 hz0 hz1 hz2 rfl (by omega) (.slice (some ⟨g, 0, none⟩) c.length cap) c.length (c.map byteV) (by rfl) ((Ho.out.alloc _).drew)
            ⟨wr.heap.size, 0, none⟩ 1 1 [.int .u8 (n / 256 ^ j % 256)] (by rfl) (by rfl) (World.news_of_block (cs := #[.int .u8 (n / 256 ^ j % 256)]) (t := 5) (fr := (0, 0)) (heap_alloc_new wr _)) (by simp [Value.oneCell'])
            (by omega) (by unfold maxLen; omega) (by omega) (by simp; omega) (wr.heap.size + 1) (by simp) ?_; intro gg cap1 w1 hown1 hgrow hat hltg; have f1 : w1.frozen? ⟨p, 0, none⟩ = false := (hgrow.frozen_far ⟨p, 0, none⟩ (by simp; omega) (by simp [Value.ownBlock]; omega)).trans (((((Ext.refl wr).alloc _).drew).frozen hlt).trans c1);
            have k0 : w1.cell? ⟨p, 0, none⟩ = some (.slice (some ⟨g, 0, none⟩) c.length cap) := (hgrow.cell_far ⟨p, 0, none⟩ (by simp; omega) (by simp [Value.ownBlock]; omega)).trans (((((Ext.refl wr).alloc _).drew).cell hlt).trans c0)))
      all_goals
        go_wp2_with fail
        go_roundw
        case rel =>
          refine ⟨j, (j : Int) - 1, by omega, by omega, rfl, c ++ [bt (n / 256 ^ j)], ?_, ?_, put_step hbel hb0 hgp hlt Hb.out Ho.out _ hown1 hgrow hat⟩
          · have := Hcl.out
            simp; omega
          · have := Hc.out
            rw [← this]
            simp [beN]
        case measure => simp [intOf]

theorem append_types (ty : TypeId) (v x : Value) (w : World) : (Builtin.append_ #[70, 27] ty #[v, x]).run Tryz.prog w = (Builtin.append_ #[70, 70] ty #[v, x]).run Tryz.prog w := by
  cases v <;> simp [Builtin.append_, run_underlying Tryz.underlying70, run_underlying Tryz.underlying27]

theorem run_append_own_lies (w : World) (t : TypeId) (base : Nat) (e : TypeId) (i : TypeInfo) (z : Value) (size bytes : Nat) (ht : Tryz.prog.underlying t = some (.slice e)) (hi : Tryz.prog.info? e = some i) (hz : i.zero = some z)
    (hsize : i.size = size) (hby : i.bytes = bytes) (hzs : z.cells.size = size) (hsz : 0 < size)
    (v : Value) (n : Nat) (xs : List Value) (hown : w.ownsRow base e size v n xs)
    (ad : Addr) (m c : Nat) (news : List Value) (hl : news.length = m * size) (hnews : ∀ j u, news[j]? = some u → w.cell? (ad.add j) = some u) (h1 : ∀ u ∈ news, u.oneCell' = true)
    (hm : 0 < m) (h63 : n + m ≤ maxLen) (hbytes : (n + m) * bytes ≤ 140737488355328) (hbase : base ≤ w.heap.size) :
    ∃ g cap w', (∀ ty, (Builtin.append_ #[t, t] ty #[v, .slice (some ad) m c]).run Tryz.prog w = .ok (.slice (some ⟨g, 0, none⟩) (n + m) cap) w') ∧
      w'.ownsRow base e size (.slice (some ⟨g, 0, none⟩) (n + m) cap) (n + m) (xs ++ news) ∧ w.grownBy w' v.ownBlock ∧ (v.ownBlock = some g ∨ g = w.heap.size) ∧ g < w'.heap.size := by
  obtain ⟨g, cap, w', hr, h⟩ := run_append_lies (P := Tryz.prog) w t 0 base e i z size bytes ht hi hz hsize hby hzs hsz v n xs hown ad m c news hl hnews h1 hm h63 hbytes hbase w.heap.size rfl
  exact ⟨g, cap, w', fun ty => hr, h⟩

/-- 'append(row, b...)': the row is the call's own and not nil. -/
theorem append_wr (t : TypeId) (ht : Tryz.prog.underlying t = some (.slice 5)) {w : World} {b0 g cap : Nat} {c : List UInt8} (ho : w.ownsRow b0 5 1 (.slice (some ⟨g, 0, none⟩) c.length cap) c.length (c.map byteV)) (hb0 : b0 ≤ w.heap.size)
    {A : Option Addr} {l : List UInt8} {n k : Nat} (hv : Bytes w (.slice A n k) l) (hc : c.length ≤ 1099511627776) (hl : l.length ≤ 1099511627776) :
    ∃ gg cap1 w1, (∀ ty, (Builtin.append_ #[t, t] ty #[.slice (some ⟨g, 0, none⟩) c.length cap, .slice A n k]).run Tryz.prog w = .ok (.slice (some ⟨gg, 0, none⟩) (c.length + l.length) cap1) w1) ∧
      w1.ownsRow b0 5 1 (.slice (some ⟨gg, 0, none⟩) (c.length + l.length) cap1) (c.length + l.length) ((c ++ l).map byteV) ∧ w.grownBy w1 (some g) ∧ (some g = some gg ∨ gg = w.heap.size) := by
  obtain ⟨i0, hi0, hz0, hz1, hz2⟩ := info_parts info5
  obtain ⟨A', k', e', hk, hseg⟩ := hv
  injection e' with e1 e2 e3
  subst e1; subst e2; subst e3
  by_cases hn : l = []
  · subst hn
    have hcc : c.length ≤ cap := by
      rcases ho.2 with ⟨h, _⟩ | ⟨g', cap', _, h, _, _, h2, _⟩
      · cases h
      · injection h with _ _ h; omega
    refine ⟨g, cap, w, fun ty => ?_, by simpa using ho, ⟨rfl, rfl, rfl, Nat.le_refl _, fun _ _ _ => rfl⟩, .inl rfl⟩
    cases A with
    | none => simp [Builtin.append_, run_underlying ht, sizeOf, typeInfo, hi0, Builtin.lenOf, Builtin.firstCells, hcc, storeCells]
    | some a =>
      have hf := run_firstCells_some (P := Tryz.prog) w i0.size 0 a 0 k [] (by simp) (by simp)
      simp [Builtin.append_, run_underlying ht, sizeOf, typeInfo, hi0, Builtin.lenOf, hf, hcc, storeCells]
  · obtain ⟨b, o, rfl, hb, hcell⟩ := hseg ((map_byteV_ne l).2 hn)
    have hpos : 0 < l.length := List.length_pos_iff.2 hn
    obtain ⟨gg, cap1, w1, h1, h2, h3, h4, _⟩ := run_append_own_lies w t b0 5 i0 _ 1 1 ht hi0 hz0 hz1 hz2 rfl (by omega) (.slice (some ⟨g, 0, none⟩) c.length cap) c.length (c.map byteV) ho
      ⟨b, o, none⟩ l.length k (l.map byteV) (by simp) (fun j u hu => by
        have := hcell j u hu
        have hadd : (⟨b, o, none⟩ : Addr).add j = ⟨b, o + j, none⟩ := by unfold Addr.add; split <;> simp_all
        rw [hadd]; exact this) (by intro u hu; simp only [List.mem_map] at hu; obtain ⟨y, _, rfl⟩ := hu; rfl) hpos (by unfold maxLen; omega) (by omega) hb0
    exact ⟨gg, cap1, w1, h1, by simpa using h2, h3, h4⟩

/-- At an append whose answer is known. -/
theorem wpList_append_eq {ops : Array Oper} {rest : List Oper} {o : Oper} {a : Act} {Q : Exit → Act → World → Prop} {w w1 : World} {r : Value} (hgd : o.guard = none) (s x : Operand) (t t' : TypeId)
    (ho : o.op = .call { callee := .builtin .append, args := #[s, x], argTypes := #[t, t'] }) (v u : Value) (hs : a.eval s = v) (hx : a.eval x = u) (hr : ∀ ty, (Builtin.append_ #[t, t'] ty #[v, u]).run Tryz.prog w = .ok r w1)
    (h : wpList Tryz.prog ops Q rest (a.put o.dst r) w1) : wpList Tryz.prog ops Q (o :: rest) a w :=
  wpList_plain hgd fun _ hK => by
    have hr := hr o.type
    unfold Oper.wp execOp
    simp only [ho, resolve, invoke, builtin, Sem.run_bind, Sem.run_pure, Result.andThen_ok, List.map_toArray, List.map_cons, List.map_nil, hs, hx, hr]
    exact hK _ _ h

theorem bytes_step {w w1 : World} {b0 p g gg cap cap1 : Nat} {c l : List UInt8} (hb0 : b0 ≤ p) (hgp : g ≠ p) (hlt : p < w.heap.size) (hg0 : b0 ≤ g)  (hw : b0 ≤ w.heap.size)
    (Hb : Blk w p 70 #[.slice (some ⟨g, 0, none⟩) c.length cap])
    (hown1 : w1.ownsRow b0 5 1 (.slice (some ⟨gg, 0, none⟩) (c.length + l.length) cap1) (c.length + l.length) ((c ++ l).map byteV))
    (hgrow : w.grownBy w1 (some g)) (hat : some g = some gg ∨ gg = w.heap.size) :
    Wr (w1.setCell ⟨p, 0, none⟩ (.slice (some ⟨gg, 0, none⟩) (c.length + l.length) cap1)) b0 p (c ++ l) ∧ Below b0 w (w1.setCell ⟨p, 0, none⟩ (.slice (some ⟨gg, 0, none⟩) (c.length + l.length) cap1)) := by
  have hggp : gg ≠ p := by
    rcases hat with h | h
    · injection h with h; omega
    · omega
  have hw1 : Blk w1 p 70 #[.slice (some ⟨g, 0, none⟩) c.length cap] := (hgrow.block p hlt (by simp; omega)).trans Hb
  have hs := hw1.set_ 0 (.slice (some ⟨gg, 0, none⟩) (c.length + l.length) cap1)
  refine ⟨⟨hb0, gg, cap1, by simpa using hs, ?_⟩, ?_⟩
  · obtain ⟨h1, h2⟩ := hown1
    refine ⟨by simp, ?_⟩
    rcases h2 with ⟨h, _⟩ | ⟨g', cap', cur, hv, hb, hg, r⟩
    · cases h
    · refine .inr ⟨g', cap', cur, by simpa using hv, hb, ?_, by simpa using r⟩
      injection hv with hv; injection hv with hv; injection hv with hv; subst hv
      rw [Below.heap_setCell _ _ _ _ (by simpa using hggp)]
      exact hg
  · have h3 : Below b0 w w1 := Below.grown (Below.refl _ _) hgrow hw (by intro k hk; injection hk with hk; omega)
    exact Below.setCell h3 hb0 _

set_option maxRecDepth 100000 in
theorem bytes_any (b0 p : Nat) (l m : List UInt8) (A : Option Addr) (n k : Nat) (hl : l.length ≤ 1099511627776) (hm : m.length ≤ 1099511627776) (w : World) (h : Wr w b0 p l) (hb0 : b0 ≤ w.heap.size) (hv : Bytes w (.slice A n k) m) :
    Calls Tryz.prog 28 #[.pointer (some ⟨p, 0, none⟩), .slice A n k] w fun e w' => e = .returned (.tuple #[]) ∧ Wr w' b0 p (l ++ m) ∧ Below b0 w w' := by
  obtain ⟨hp, g, cap, hb, ho⟩ := h
  obtain ⟨gg, cap1, w1, hrun, hown, hgrow, hat⟩ := append_wr 70 Tryz.underlying70 ho hb0 hv hl hm
  have hgp : g ≠ p ∧ b0 ≤ g := by
    rcases ho.2 with ⟨h, _⟩ | ⟨g', _, _, h, hb0, hg, _⟩
    · cases h
    · injection h with h
      injection h with h
      injection h with h
      subst h
      exact ⟨Blk.ne (t := 5) hg hb (by decide), hb0⟩
  obtain ⟨hgp, hg0⟩ := hgp
  obtain ⟨c0, c1⟩ := hb.c1
  have hlt := hb.lt
  have k0 : w1.cell? ⟨p, 0, none⟩ = some (.slice (some ⟨g, 0, none⟩) l.length cap) := (hgrow.cell_far ⟨p, 0, none⟩ (by simp; omega) (by simp; omega)).trans c0
  have f1 : w1.frozen? ⟨p, 0, none⟩ = false := (hgrow.frozen_far ⟨p, 0, none⟩ (by simp; omega) (by simp; omega)).trans c1
  have Hb := Lib.hid hb
  have Ho := Lib.hid ho
  have Hw := Lib.hid hown
  clear hb ho hv hown
  go_enter Tryz.func28, Tryz.ntmps28
  go_wp2_with (first | (at_builtin; refine wpList_append_eq rfl _ _ 70 27 rfl _ _ rfl rfl (fun ty => (append_types ty _ _ _).trans (hrun ty)) ?_))
  refine bodyPost_end (results_none rfl _ _ _) rfl ?_
  exact ⟨rfl, bytes_step hp hgp hlt hg0 hb0 Hb.out Hw.out hgrow hat⟩

/-- A length and the bytes. -/
theorem block_any (b0 p : Nat) (l m : List UInt8) (A : Option Addr) (n k : Nat) (hl : l.length ≤ 1099511627000) (hm : m.length ≤ 1099511627776) (w : World) (h : Wr w b0 p l) (hb0 : b0 ≤ w.heap.size) (hv : ∀ w1, Below b0 w w1 → Bytes w1 (.slice A n k) m) :
    Calls Tryz.prog 38 #[.pointer (some ⟨p, 0, none⟩), .slice A n k] w fun e w' => e = .returned (.tuple #[]) ∧ Wr w' b0 p (l ++ beN (m.length : Int) 4 ++ m) ∧ Below b0 w w' := by
  have hn : n = m.length := by
    obtain ⟨_, _, e, _⟩ := hv w (Below.refl _ _)
    injection e
  subst hn
  have h1 := put_any (m.length : Int) 4 (by omega) b0 p l (by omega) w h
  have Hv := Lib.hid hv
  clear hv h
  go_enter Tryz.func38, Tryz.ntmps38
  go_wp2_with fail
  refine h1.mono ?_
  rintro e w1 ⟨rfl, hw1, he1⟩
  have h2 := bytes_any b0 p _ m A _ k (by simp [beN_length]; omega) hm w1 hw1 (by have := he1.size; omega) (Hv.out w1 he1)
  have Hw1 := Lib.hid hw1
  clear h1 hw1
  go_wp2_with fail
  refine h2.mono ?_
  rintro e w2 ⟨rfl, hw2, he2⟩
  have Hw2 := Lib.hid hw2
  clear h2 hw2
  go_wp2_with fail
  go_end0
  exact ⟨rfl, Hw2.out, he1.trans he2⟩

/-- A frame's bytes. -/
def frameB (v f s o : Int) (body : List UInt8) : List UInt8 := beN v 1 ++ beN f 1 ++ beN s 2 ++ beN o 1 ++ beN (body.length : Int) 4 ++ body

theorem Wr.out {w : World} {b0 p : Nat} {l : List UInt8} (h : Wr w b0 p l) : ∃ g c, w.cell? ⟨p, 0, none⟩ = some (.slice (some ⟨g, 0, none⟩) l.length c) ∧ Out l (.slice (some ⟨g, 0, none⟩) l.length c) w := by
  obtain ⟨_, g, c, hb, h1, h2⟩ := h
  refine ⟨g, c, hb.c1.1, ?_⟩
  rcases h2 with ⟨h, _⟩ | ⟨g', cap', cur, hv, _, hg, hc, _, _, ht⟩
  · cases h
  · injection hv with hv1 hv2 hv3; injection hv1 with hv1; injection hv1 with hv1; subst hv1; subst hv3
    exact Out.of_blk hg (by decide) (by decide) rfl hc (by simpa using ht)

set_option maxRecDepth 100000 in
theorem frame_any (v f s o : Int) (body : List UInt8) (A : Option Addr) (n k : Nat) (hm : body.length ≤ 1099511627776) (w : World) (hv : Bytes w (.slice A n k) body) :
    Calls Tryz.prog 17 #[.int .i64 v, .int .i64 f, .int .i64 s, .int .i64 o, .slice A n k] w fun e w' => ∃ r, e = .returned r ∧ Out (frameB v f s o body) r w' ∧ Ext w w' := by
  have Hv := Lib.hid hv
  clear hv
  go_enter Tryz.func17, Tryz.ntmps17
  go_upto_region 2 with fail
  have hw0 : Wr ((w.alloc (Obj.cells #[] 5)).alloc (Obj.cells #[Value.slice (some { block := w.heap.size, off := 0 }) 0 0] 70)) w.heap.size (w.heap.size + 1) [] :=
    ⟨by omega, w.heap.size, 0, Blk.new' _ _ 70 _ (by simp), ⟨rfl, .inr ⟨w.heap.size, 0, #[], rfl, Nat.le_refl _, (Blk.new w 5 #[]).alloc _, Nat.le_refl _, by decide, rfl, rfl⟩⟩⟩
  have he0 : Ext w ((w.alloc (Obj.cells #[] 5)).alloc (Obj.cells #[Value.slice (some { block := w.heap.size, off := 0 }) 0 0] 70)) := ((Ext.refl w).alloc _).alloc _
  generalize ((w.alloc (Obj.cells #[] 5)).alloc (Obj.cells #[Value.slice (some { block := w.heap.size, off := 0 }) 0 0] 70)) = w0 at *
  have h1 := put_any v 1 (by omega) w.heap.size (w.heap.size + 1) [] (by simp) w0 hw0
  clear hw0
  go_wp2_with fail
  refine h1.mono ?_
  rintro e w1 ⟨rfl, hw1, he1⟩
  have h2 := put_any f 1 (by omega) w.heap.size (w.heap.size + 1) _ (by simp [beN_length]) w1 hw1
  clear h1 hw1
  go_wp2_with fail
  refine h2.mono ?_
  rintro e w2 ⟨rfl, hw2, he2⟩
  have h3 := put_any s 2 (by omega) w.heap.size (w.heap.size + 1) _ (by simp [beN_length]) w2 hw2
  clear h2 hw2
  go_wp2_with fail
  refine h3.mono ?_
  rintro e w3 ⟨rfl, hw3, he3⟩
  have h4 := put_any o 1 (by omega) w.heap.size (w.heap.size + 1) _ (by simp [beN_length]) w3 hw3
  clear h3 hw3
  go_wp2_with fail
  refine h4.mono ?_
  rintro e w4 ⟨rfl, hw4, he4⟩
  have he : Ext w w4 := (((Below.trans he0 he1).trans he2).trans he3).trans he4
  have h5 := block_any w.heap.size (w.heap.size + 1) _ body A n k (by simp [beN_length]) hm w4 hw4 he.size (fun w5 h5 => Hv.out.ext (Below.trans he h5))
  clear h4 hw4
  go_wp2_with fail
  refine h5.mono ?_
  rintro e w5 ⟨rfl, hw5, he5⟩
  clear h5
  obtain ⟨g, c, hcell, hout⟩ := hw5.out
  have Hout := Lib.hid hout
  clear hw5 hout
  go_wp2_with fail
  go_ret
  exact ⟨_, rfl, by simpa [frameB] using Hout.out, Below.trans he he5⟩
end Go.Proofs.YtammjbmfiakbnaaGreatDoor
