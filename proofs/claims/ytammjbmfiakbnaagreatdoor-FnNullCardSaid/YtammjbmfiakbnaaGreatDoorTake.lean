/-
  A load of a region that draws its order may be taken first, where nobody who can come before it writes its cell: what is asked of the world is asked only ahead of it, not behind what waits for it (as a store into the very cell). After the library's Derived.OrdersHeld. No conditions.
-/
import Derived.OrdersHeld
import Derived.RegionTactic
import Derived.Deep.RegionHeld
namespace Go.Proofs.YtammjbmfiakbnaaGreatDoor
open Go
section
variable {P : Program} {ops : Array Oper} {Q : Exit → Act → World → Prop} {md : Region.Mode} {S : World → Prop} {N : Nat → Bool}

theorem at_of_drop {i : Nat} {o : Oper} {rest : List Oper} (h : ops.toList.drop i = o :: rest) : ops[i]? = some o := by
  have h1 : (ops.toList.drop i)[0]? = some o := by rw [h]; rfl
  rw [List.getElem?_drop] at h1
  simpa using h1

/-- Whatever order is picked from here on; and S holds behind every operation of N that is carried out. -/
def wpAnyK (P : Program) (md : Region.Mode) (ops : Array Oper) (Q : Exit → Act → World → Prop) (S : World → Prop) (N : Nat → Bool) : Nat → Array Bool → Act → World → Prop
  | 0, listed, a, w => Region.ready md ops listed = [] ∧ Q .normal a w
  | fuel + 1, listed, a, w =>
    (Region.ready md ops listed = [] → Q .normal a w) ∧
    ∀ i ∈ Region.ready md ops listed, wpOp P ops Q i (fun a' w' => (N i = true → S w') ∧ wpAnyK P md ops Q S N fuel (listed.setIfInBounds i true) a' w') a w

theorem wpAny_of_K : ∀ (fuel : Nat) (listed : Array Bool) (a : Act) (w : World), wpAnyK P md ops Q S N fuel listed a w → wpAny P md ops Q fuel listed a w
  | 0, _, _, _, h => h
  | fuel + 1, _, _, _, h => ⟨h.1, fun i hi => wpOp_mono (fun a' w' h' => wpAny_of_K fuel _ a' w' h'.2) (h.2 i hi)⟩

/-- Whoever is of D waits for i, or for another of D; whoever is not of N is of D, or has come up. -/
def waitsB (md : Region.Mode) (ops : Array Oper) (N D : Nat → Bool) (listed0 : Array Bool) (i : Nat) : Bool :=
  (List.range ops.size).all fun j => (listed0.getD j false || (N j || D j)) && (!D j || match ops[j]? with
    | some oj => oj.after.any fun e => Region.binds md e && (e.on == i || D e.on)
    | none => true)
/-- Nobody of D has come up. -/
def noneB (ops : Array Oper) (D : Nat → Bool) (listed : Array Bool) : Bool :=
  (List.range ops.size).all fun j => !D j || !listed.getD j true

theorem waits_spec {D : Nat → Bool} {i : Nat} {listed0 : Array Bool} (h : waitsB md ops N D listed0 i = true) {listed : Array Bool} (hn : ∀ k, k < ops.size → D k = true → listed.getD k true = false) (hi : listed.getD i false = false) (hsz : listed.size = ops.size)
    (hl0 : ∀ k, listed0.getD k false = true → listed.getD k true = true) {j : Nat} (hj : j ∈ Region.ready md ops listed) : N j = true ∧ D j = false := by
  obtain ⟨hjun, oj, hoj, hall⟩ := mem_ready.1 hj
  have hlt := (Array.getElem?_eq_some_iff.1 hoj).1
  simp only [waitsB, List.all_eq_true, List.mem_range, Bool.and_eq_true, Bool.or_eq_true, Bool.not_eq_true'] at h
  obtain ⟨h0, h1⟩ := h j hlt
  cases hD : D j with
  | false =>
    rcases h0 with h0 | h0 | h0
    · rw [hl0 j h0] at hjun; cases hjun
    · exact ⟨h0, rfl⟩
    · rw [hD] at h0; cases h0
  | true =>
    rw [hD, hoj] at h1
    rcases h1 with h1 | h1
    · cases h1
    simp only [Array.any_eq_true, Bool.and_eq_true, Bool.or_eq_true, beq_iff_eq] at h1
    obtain ⟨k, hk, hb, he⟩ := h1
    have h2 := hall _ (Array.getElem_mem hk) hb
    rcases he with he | he
    · rw [he] at h2
      rw [hi] at h2
      cases h2
    · have hlt2 : oj.after[k].on < ops.size := by
        rcases Nat.lt_or_ge oj.after[k].on listed.size with h' | h'
        · omega
        · rw [Array.getD_eq_getD_getElem?, Array.getElem?_eq_none h'] at h2; cases h2
      have h3 := hn _ hlt2 he
      rw [Array.getD_eq_getD_getElem?, Array.getElem?_eq_getElem (by omega)] at h2 h3
      simp only [Option.getD_some] at h2 h3
      rw [h2] at h3
      cases h3

theorem wpAnyK_first {S0 : World → Prop} {i : Nat} {oi : Oper} {v : Value} (hi : ops[i]? = some oi) (hsel : ∀ (j : Nat) (o : Oper) cs b, ops[j]? = some o → o.op ≠ .select cs b)
    (hQ : ∀ c a w, Q (.panic c) (a.put oi.dst v) w → Q (.panic c) a w) (I : Array Bool → Prop)
    (hI : ∀ (listed : Array Bool) (j : Nat), I listed → i ∈ Region.ready md ops listed → j ∈ Region.ready md ops listed → j ≠ i → I (listed.setIfInBounds j true) ∧ ∀ w', (N j = true → S w') → S0 w') :
    ∀ (fuel : Nat) (listed : Array Bool) (a : Act) (w : World),
      (∀ j oj, ops[j]? = some oj → j ≠ i → listed.getD j true = false → (∀ e ∈ oj.after, Region.binds md e = true → e.on ≠ i) → oi.apart ops oj = true) →
      I listed →
      i ∈ Region.ready md ops listed → YieldsIf P ops S0 oi v a → S0 w → (N i = true → S0 w → S w) →
      wpAnyK P md ops Q S N fuel (listed.setIfInBounds i true) (a.put oi.dst v) w → (∀ w', N i = true → S0 w' → S w') → wpAnyK P md ops Q S N (fuel + 1) listed a w := by
  intro fuel
  induction fuel with
  | zero =>
    intro listed a w _ _ hr hy hS hNi H hNS
    refine ⟨fun h => (by rw [h] at hr; cases hr), fun j hj => ?_⟩
    by_cases hji : j = i
    · subst hji; exact hy.wpOp hi hS ⟨fun h => hNi h hS, H⟩
    · have := ready_mono hj hji
      rw [H.1] at this
      cases this
  | succ fuel ih =>
    intro listed a w hfree hIl hr hy hS hNi H hNS
    refine ⟨fun h => (by rw [h] at hr; cases hr), fun j hj => ?_⟩
    by_cases hji : j = i
    · subst hji; exact hy.wpOp hi hS ⟨fun h => hNi h hS, H⟩
    · have h1 := H.2 j (ready_mono hj hji)
      obtain ⟨hjun, oj, hoj, hall⟩ := mem_ready.1 hj
      obtain ⟨hI', hSS⟩ := hI listed j hIl hr hj hji
      have hnot : ∀ e ∈ oj.after, Region.binds md e = true → e.on ≠ i := fun e he hb heq => by
        have h1 := hall e he hb
        have h0 := (mem_ready.1 hr).1
        rw [heq] at h1
        rcases Nat.lt_or_ge i listed.size with h' | h'
        · simp [h'] at h0 h1; rw [h0] at h1; cases h1
        · simp [Array.getElem?_eq_none h'] at h1
      have h2 := wpOp_putIf hoj (hfree j oj hoj hji hjun hnot) (fun cs b => hsel i oi cs b hi) (fun cs b => hsel j oj cs b hoj) hQ hy h1
      have hfree' : ∀ k ok, ops[k]? = some ok → k ≠ i → (listed.setIfInBounds j true).getD k true = false →
          (∀ e ∈ ok.after, Region.binds md e = true → e.on ≠ i) → oi.apart ops ok = true := fun k ok hk hki hun hno => by
        refine hfree k ok hk hki ?_ hno
        by_cases hjk : j = k
        · subst hjk; exact hjun
        · rw [getD_set_ne true hjk] at hun; exact hun
      refine wpOp_mono (fun a' w' h3 => ⟨h3.2.1, ih (listed.setIfInBounds j true) a' w' hfree' hI' (ready_mono hr (Ne.symm hji)) h3.1 (hSS w' h3.2.1) (hNS w') ?_ hNS⟩) h2
      rw [Array.setIfInBounds_comm _ _ hji]
      exact h3.2.2

/-- All that is asked of the region's text for taking number i first. -/
def takeB (md : Region.Mode) (ops : Array Oper) (N D : Nat → Bool) (listed : Array Bool) (i : Nat) : Bool :=
  Region.noSelect ops && (Region.free md ops listed i && ((Region.ready md ops listed).contains i && (waitsB md ops N D listed i && (noneB ops D listed && listed.size == ops.size))))
/-- The same, where the operation yields in whatever world. -/
def freeB (md : Region.Mode) (ops : Array Oper) (N : Nat → Bool) (listed : Array Bool) (i : Nat) : Bool :=
  Region.noSelect ops && (Region.free md ops listed i && ((Region.ready md ops listed).contains i && !N i))

/-- Take number i first: it yields where S holds. -/
theorem wpAnyK_take (i : Nat) (D : Nat → Bool) {oi : Oper} {rest : List Oper} {v : Value} {fuel : Nat} {listed : Array Bool} {a : Act} {w : World} (hi' : ops.toList.drop i = oi :: rest)
    (hB : takeB md ops N D listed i = true)
    (hQ : ∀ c a w, Q (.panic c) (a.put oi.dst v) w → Q (.panic c) a w) (hS : S w) (hy : YieldsIf P ops S oi v a)
    (h : wpAnyK P md ops Q S N fuel (listed.setIfInBounds i true) (a.put oi.dst v) w) : wpAnyK P md ops Q S N (fuel + 1) listed a w := by
  have hi := at_of_drop hi'
  simp only [takeB, Bool.and_eq_true, beq_iff_eq] at hB
  obtain ⟨hs, hf, hr, hw, hno, hsz⟩ := hB
  have hno' : ∀ k, k < ops.size → D k = true → listed.getD k true = false := fun k hk hNk => by
    simp only [noneB, List.all_eq_true, List.mem_range] at hno
    have := hno k hk
    rw [hNk] at this
    simpa using this
  refine wpAnyK_first hi (Region.noSelect_spec hs) hQ (fun l => l.size = ops.size ∧ (∀ k, k < ops.size → D k = true → l.getD k true = false) ∧ ∀ k, listed.getD k false = true → l.getD k true = true) ?_ fuel listed a w (Region.free_spec hi hf) ⟨hsz, hno', fun k hk => by
    rw [Array.getD_eq_getD_getElem?] at hk ⊢
    cases h : listed[k]? <;> rw [h] at hk <;> simp_all⟩ (by simpa using hr) hy hS (fun _ h => h) h (fun _ _ h => h)
  rintro listed1 j ⟨hsz, hn, hl0⟩ hr hj hji
  have hilt := (Array.getElem?_eq_some_iff.1 hi).1
  have hi0 : listed1.getD i false = false := by
    have h0 := (mem_ready.1 hr).1
    rw [Array.getD_eq_getD_getElem?, Array.getElem?_eq_getElem (by omega)] at h0 ⊢
    simpa using h0
  obtain ⟨hNj, hDj⟩ := waits_spec hw hn hi0 hsz hl0 hj
  refine ⟨⟨by simpa using hsz, fun k hk hNk => ?_, fun k hk => ?_⟩, fun w' h => h hNj⟩
  · have hjk : j ≠ k := by rintro rfl; rw [hDj] at hNk; cases hNk
    rw [getD_set_ne true hjk]
    exact hn k hk hNk
  · by_cases hjk : j = k
    · subst hjk
      rw [Array.getD_eq_getD_getElem?, Array.getElem?_setIfInBounds, if_pos rfl]
      split <;> rfl
    · rw [getD_set_ne true hjk]
      exact hl0 k hk

/-- Take number i first: it yields in whatever world. -/
theorem wpAnyK_free (i : Nat) {oi : Oper} {rest : List Oper} {v : Value} {fuel : Nat} {listed : Array Bool} {a : Act} {w : World} (hi' : ops.toList.drop i = oi :: rest)
    (hB : freeB md ops N listed i = true)
    (hQ : ∀ c a w, Q (.panic c) (a.put oi.dst v) w → Q (.panic c) a w) (hy : Yields P ops oi v a)
    (h : wpAnyK P md ops Q S N fuel (listed.setIfInBounds i true) (a.put oi.dst v) w) : wpAnyK P md ops Q S N (fuel + 1) listed a w := by
  have hi := at_of_drop hi'
  simp only [freeB, Bool.and_eq_true, Bool.not_eq_true'] at hB
  obtain ⟨hs, hf, hr, hN⟩ := hB
  exact wpAnyK_first (S0 := fun _ => True) hi (Region.noSelect_spec hs) hQ (fun _ => True) (fun _ _ _ _ _ _ => ⟨trivial, fun _ _ => trivial⟩) fuel listed a w (Region.free_spec hi hf) trivial (by simpa using hr) hy.yieldsIf trivial
    (fun h => by rw [hN] at h; cases h) h (fun _ h => by rw [hN] at h; cases h)

/-- One operation comes up, no other. -/
theorem wpAnyK_one (i : Nat) {o : Oper} {rest : List Oper} {fuel : Nat} {listed : Array Bool} {a : Act} {w : World} (hr : Region.ready md ops listed = [i]) (ho' : ops.toList.drop i = o :: rest) (hgd : o.guard = none)
    (h : ∀ K' : Act → World → Prop, Shut (∀ a w, (N i = true → S w) → wpAnyK P md ops Q S N fuel (listed.setIfInBounds i true) a w → K' a w) → Oper.wp P o a w K' Q) : wpAnyK P md ops Q S N (fuel + 1) listed a w :=
  ⟨fun h0 => (by rw [h0] at hr; cases hr), fun j hj => by
    rw [hr] at hj
    obtain rfl : j = i := by simpa using hj
    refine wpOp_step (at_of_drop ho') (fun K' hK => ?_)
    have hw : Region.wanted o (yielded ops a.tmps) = true := by simp [Region.wanted, hgd]
    rw [if_pos hw]
    exact h K' (fun a w hS hW => hK a w ⟨hS, hW⟩)⟩

/-- All have come up. -/
theorem wpAnyK_done {listed : Array Bool} {a : Act} {w : World} (hr : Region.ready md ops listed = []) (h : Q .normal a w) : ∀ fuel, wpAnyK P md ops Q S N fuel listed a w
  | 0 => ⟨hr, h⟩
  | _ + 1 => ⟨fun _ => h, by rw [hr]; simp⟩

/-- The beginning. -/
theorem wp_region_K (S : World → Prop) (N : Nat → Bool) (n : Nat) (l0 : List Bool) {id : Nat} {a : Act} {w : World} (hm : P.follows .mixedOrders = true) (hn : ops.size = n) (hl : List.replicate n false = l0)
    (h : wpAnyK P .any ops Q S N n l0.toArray a w.drew) : (Code.region id ops true).wp P Q a w := by
  subst hn
  refine wp_region_any hm (wpAny_of_K (S := S) (N := N) _ _ _ _ ?_)
  have e : Array.replicate ops.size false = l0.toArray := by rw [← hl]; simp
  rw [e]
  exact h
end
end Go.Proofs.YtammjbmfiakbnaaGreatDoor
