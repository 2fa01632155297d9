/-
  impl.quietly, handed one of the two closures of this program, calls it and answers true, if the closure returns. No conditions but the closure's own contract.
-/
import Derived.Test.YtammjbmfiakbnaaGreatDoorProg
import Derived.Test.YtammjbmfiakbnaaGreatDoorMem
import Derived.Defers
import Derived.Recover
import Derived.Outline
namespace Go.Proofs.YtammjbmfiakbnaaGreatDoor
open Go.RowKit

theorem catch_idle (p : Addr) (w : World) :
    CallsD Tryz.prog 46 #[.pointer (some p)] .returning w fun e u' w' => e = .returned (.tuple #[]) ∧ u' = .returning ∧ w' = w := by
  refine callsD_of_wpS Tryz.func46 rfl fun c₀ cs hu => ?_
  apply wpS_seq
  apply wpS_region
  simp [wpOpsS, go_sem, recoverD, hu, Tryz.ntmps46, Exit.thenS]
  refine wpS_cond (t := false) (by simp [Act.eval, Array.replicate]) ?_
  simp only [Bool.false_eq_true, if_false]
  refine wpS_of_wp (wp_skip ?_)
  cases c₀
  simp_all [bodyPostS, results, Tryz.results46]

theorem quietly_24 (cap : Array Value) (w : World) (R : World → Prop) (b : Nat) (hsz : w.heap.size = b)
    (h : Calls Tryz.prog 24 cap (w.alloc (.cells #[.bool false] 4)) fun e w' => e = .returned (.tuple #[]) ∧ R w' ∧ Blk w' b 4 #[.bool false]) :
    Calls Tryz.prog 23 #[.func (.func 24) #[] cap] w fun e w' => e = .returned (.bool true) ∧ ∃ w1, R w1 ∧ w' = w1.setCell ⟨b, 0, none⟩ (.bool true) := by
  subst hsz
  have hmf : ∀ (fn : Fn) (first cap : Array Value) (w : World), (Instr.makeFunc fn first cap).run Tryz.prog w = .ok (.func fn first cap) w := fun _ _ _ _ => rfl
  go_enter_defers Tryz.func23, Tryz.ntmps23
  go_wp2_with fail
  refine h.mono ?_
  rintro e w1 ⟨rfl, hR, hb⟩
  obtain ⟨c0, f0⟩ := hb.c1
  go_wp2_with fail
  refine leaves_cons (f := 46) (args := #[.pointer (some ⟨w.heap.size, 0, none⟩)]) (by simp) (by simp [go_sem]) ?_
  refine (catch_idle ⟨w.heap.size, 0, none⟩ _).mono ?_
  rintro e u' w'' ⟨rfl, rfl, rfl⟩
  have c1 : (w1.setCell ⟨w.heap.size, 0, none⟩ (.bool true)).cell? ⟨w.heap.size, 0, none⟩ = some (.bool true) := World.cell?_setCell_same _ _ _ c0
  simp [Leaves, settle, results, Tryz.results23, go_sem, c1]
  exact ⟨w1, hR, rfl⟩

theorem quietly_36 (cap : Array Value) (w : World) (R : World → Prop) (b : Nat) (hsz : w.heap.size = b)
    (h : Calls Tryz.prog 36 cap (w.alloc (.cells #[.bool false] 4)) fun e w' => e = .returned (.tuple #[]) ∧ R w' ∧ Blk w' b 4 #[.bool false]) :
    Calls Tryz.prog 23 #[.func (.func 36) #[] cap] w fun e w' => e = .returned (.bool true) ∧ ∃ w1, R w1 ∧ w' = w1.setCell ⟨b, 0, none⟩ (.bool true) := by
  subst hsz
  have hmf : ∀ (fn : Fn) (first cap : Array Value) (w : World), (Instr.makeFunc fn first cap).run Tryz.prog w = .ok (.func fn first cap) w := fun _ _ _ _ => rfl
  go_enter_defers Tryz.func23, Tryz.ntmps23
  go_wp2_with fail
  refine h.mono ?_
  rintro e w1 ⟨rfl, hR, hb⟩
  obtain ⟨c0, f0⟩ := hb.c1
  go_wp2_with fail
  refine leaves_cons (f := 46) (args := #[.pointer (some ⟨w.heap.size, 0, none⟩)]) (by simp) (by simp [go_sem]) ?_
  refine (catch_idle ⟨w.heap.size, 0, none⟩ _).mono ?_
  rintro e u' w'' ⟨rfl, rfl, rfl⟩
  have c1 : (w1.setCell ⟨w.heap.size, 0, none⟩ (.bool true)).cell? ⟨w.heap.size, 0, none⟩ = some (.bool true) := World.cell?_setCell_same _ _ _ c0
  simp [Leaves, settle, results, Tryz.results23, go_sem, c1]
  exact ⟨w1, hR, rfl⟩
end Go.Proofs.YtammjbmfiakbnaaGreatDoor
