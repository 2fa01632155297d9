/-
  What comes in: a slice of bytes reads as a list of bytes. No conditions. And the door's own heap meets the condition on the tables.
-/
import Derived.Test.YtammjbmfiakbnaaGreatDoorRows
import Derived.Test.YtammjbmfiakbnaaGreatDoorWorks
import Derived.ProofKit
import Derived.LaidMore
import Derived.OpenShut
import Derived.Stop.Joined
namespace Go.Proofs.YtammjbmfiakbnaaGreatDoor
open Go.ChangeShapes Go.WideShapes Go.ChangeAt Go.RowKit

theorem own : ownKnob Tryz.prog.godebug = none := by kernel_rfl
theorem laidOut : laidOutB Tryz.prog = true := by kernel_rfl

theorem cell_lt {w : World} {a : Addr} {v : Value} (h : w.cell? a = some v) : a.block < w.heap.size := by
  rcases Nat.lt_or_ge a.block w.heap.size with hl | hg
  · exact hl
  · simp [World.cell?, Array.getElem?_eq_none hg] at h

/-- The bytes that a slice of bytes holds. -/
theorem bytes_of_open {W : World} {x : Addr} {l c : Nat} {zs : List Int} (hl : l ≤ c) (hz : zs.length = c) (hcell : ∀ i, i < zs.length → W.cell? (x.add i) = some (.int .u8 (zs.getD i 0))) (hw : ∀ n ∈ zs, (Lit.int .u8 n).wf = true) :
    ∃ body : List UInt8, body.length = l ∧ Bytes W (.slice (some x) l c) body := by
  refine ⟨(zs.take l).map fun n => UInt8.ofNat n.toNat, by simp; omega, ?_⟩
  have hlen : ((zs.take l).map fun n => UInt8.ofNat n.toNat).length = l := by simp; omega
  have hval : ∀ j u, (((zs.take l).map fun n => UInt8.ofNat n.toNat).map byteV)[j]? = some u → W.cell? (x.add j) = some u := fun j u hu => by
    simp only [List.map_map, List.getElem?_map, Option.map_eq_some_iff, Function.comp_apply] at hu
    obtain ⟨n, hn, rfl⟩ := hu
    rw [List.getElem?_take] at hn
    split at hn
    · have hj := (List.getElem?_eq_some_iff.1 hn).1
      have hx := hcell j hj
      have hmem : n ∈ zs := List.mem_of_getElem? hn
      have hb := bounds_u8 (hw n hmem)
      rw [hx]
      have : zs.getD j 0 = n := by simp [List.getD, hn]
      rw [this]
      simp only [byteV, UInt8.toNat_ofNat', Option.some.injEq, Value.int.injEq, true_and]
      omega
    · cases hn
  refine ⟨some x, c, by rw [hlen], by rw [hlen]; exact hl, fun hne => ?_⟩
  obtain ⟨b, o, s⟩ := x
  cases hl0 : ((zs.take l).map fun n => UInt8.ofNat n.toNat).map byteV with
  | nil => exact absurd hl0 hne
  | cons u us =>
    have h0 := hval 0 u (by rw [hl0]; rfl)
    have hs : s = none := by simpa [Addr.add] using World.cell?_spot h0
    subst hs
    refine ⟨b, o, rfl, by simpa [Addr.add] using cell_lt h0, fun j u' hu => ?_⟩
    have := hval j u' (by rw [hl0]; exact hu)
    have hadd : (⟨b, o, none⟩ : Addr).add j = ⟨b, o + j, none⟩ := by unfold Addr.add; split <;> simp_all
    rwa [hadd] at this

/-- The door's own heap meets the condition: three closed facts. -/
theorem door_met (os : Os) (args : Array Value) : laidMetH Tryz.prog Rows.fnHeaderRow.laid ((World.doorLaid Tryz.prog 400 os).forCall (fun _ _ => 0) ⟨#[], args, []⟩).memory :=
  laidMetH_of_parts3 (fuel := 8) (laidMet_of_run' 8 (by kernel_rfl) (by kernel_rfl)) (by kernel_rfl) (by kernel_rfl)
end Go.Proofs.YtammjbmfiakbnaaGreatDoor
