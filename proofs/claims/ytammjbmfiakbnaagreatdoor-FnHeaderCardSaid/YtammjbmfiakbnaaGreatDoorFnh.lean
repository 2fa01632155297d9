/-
  The law of a header: what it answers is true. No conditions.
-/
import Derived.Test.YtammjbmfiakbnaaGreatDoorPrs
import Derived.Test.YtammjbmfiakbnaaGreatDoorWorks
namespace Go.Proofs.YtammjbmfiakbnaaGreatDoor
open Go.RowKit

theorem frameB_eq (v f s o : Int) (body : List UInt8) : frameB v f s o body =
    bt v :: bt f :: bt (s / 256) :: bt s :: bt o :: bt ((body.length : Int) / 16777216) :: bt ((body.length : Int) / 65536) :: bt ((body.length : Int) / 256) :: bt (body.length : Int) :: body := by
  simp [frameB, beN]

theorem ver_bt (v : Int) (b : Bool) (hv : v = 3 ∨ v = 4) : Ver (bt (if b then v + 128 else v)) v b := by
  rcases hv with rfl | rfl <;> cases b
  · exact ver_3
  · exact ver_131
  · exact ver_4
  · exact ver_132

set_option maxRecDepth 100000 in
set_option maxHeartbeats 3200000 in
theorem fnHeader_good (v f s o : Int) (b : Bool) (body : List UInt8) (A : Option Addr) (k : Nat) (hv : v = 3 ∨ v = 4) (hf : 0 ≤ f ∧ f ≤ 255) (hs : 0 ≤ s ∧ s ≤ 32767) (ho : 0 ≤ o ∧ o ≤ 16) (hb : body.length ≤ 1000) (w : World) (hB : Bytes w (.slice A body.length k) body) :
    Calls Tryz.prog 5 #[.int .i64 v, .int .i64 f, .int .i64 s, .int .i64 o, .slice A body.length k, .bool b] w fun e w' => e = .returned (.bool true) ∧ Ext w w' := by
  have h1 := frame_any (if b then v + 128 else v) f s o body A body.length k (by omega) w hB
  have hver := ver_bt v b hv
  have hx2 : (bt (s / 256)).toNat < 128 := by have := bt_nat (s / 256); omega
  have hx5 : (bt ((body.length : Int) / 16777216)).toNat < 128 := by have := bt_nat ((body.length : Int) / 16777216); omega
  have hss : ((bt (s / 256)).toNat : Int) * 256 + (bt s).toNat = s := by rw [bt_nat, bt_nat]; omega
  have hnn : ((bt ((body.length : Int) / 16777216)).toNat : Int) * 16777216 + (bt ((body.length : Int) / 65536)).toNat * 65536 + (bt ((body.length : Int) / 256)).toNat * 256 + (bt (body.length : Int)).toNat = body.length := by
    rw [bt_nat, bt_nat, bt_nat, bt_nat]; omega
  have h2 := fun W r hr => parse_any _ body _ _ _ _ _ _ _ _ _ (frameB_eq (if b then v + 128 else v) f s o body) (by rw [frameB_eq]; simp; omega) v b hver hx2 hx5 s body.length hss hnn W r hr
  have hx1 : ((bt f).toNat : Int) = f := by rw [bt_nat]; omega
  have hx4 : ((bt o).toNat : Int) = o := by rw [bt_nat]; omega
  unfold implV at h2
  rw [hx1, hx4] at h2
  have hn : ¬ (2147483647 : Int) < body.length := by omega
  clear hver hx2 hx5 hss hnn hx1 hx4 hB
  have or3 : bits .or .i64 3 128 = 131 := by decide
  have or4 : bits .or .i64 4 128 = 132 := by decide
  have H2 := Lib.hid h2
  clear h2
  rcases hv with rfl | rfl <;> cases b <;>
  · simp only [Bool.false_eq_true, if_false, if_true, Int.reduceAdd] at h1
    go_enter Tryz.func5, Tryz.ntmps5
    go_wp2_with fail
    refine h1.mono ?_
    rintro e w1 ⟨r, rfl, hr, he1⟩
    have h2 := H2.out w1 r (by simpa only [Bool.false_eq_true, if_false, if_true, Int.reduceAdd] using hr)
    have He1 := Lib.hid he1
    clear h1 hr he1
    go_wp2_with fail
    refine h2.mono ?_
    rintro e w2 ⟨rfl, he2⟩
    have He2 := Lib.hid he2
    clear h2 he2
    go_wp2_with fail
    refine (works_any _).mono ?_
    rintro e w3 ⟨rfl, he3⟩
    have He3 := Lib.hid he3
    clear he3
    go_wp2_with fail
    go_ret
    exact ⟨rfl, ((He1.out.trans He2.out).alloc _).trans He3.out⟩

set_option maxRecDepth 100000 in
set_option maxHeartbeats 3200000 in
theorem fnHeader_any (v f s o : Int) (b : Bool) (body : List UInt8) (A : Option Addr) (k : Nat) (w : World) (hB : Bytes w (.slice A body.length k) body) :
    Calls Tryz.prog 5 #[.int .i64 v, .int .i64 f, .int .i64 s, .int .i64 o, .slice A body.length k, .bool b] w fun e w' => e = .returned (.bool true) ∧ Ext w w' := by
  by_cases h0 : (2147483647 : Int) < body.length
  · clear hB
    go_enter Tryz.func5, Tryz.ntmps5
    go_wp2_with fail
    go_ret
    exact ⟨rfl, Ext.refl _⟩
  by_cases hv : v = 3 ∨ v = 4
  · by_cases h1 : f < 0
    · clear hB
      rcases hv with rfl | rfl <;>
      · go_enter Tryz.func5, Tryz.ntmps5
        go_wp2_with fail
        refine (works_any _).mono ?_
        rintro e w3 ⟨rfl, he3⟩
        go_wp2_with fail
        go_ret
        exact ⟨rfl, he3⟩
    by_cases h2 : 255 < f
    · clear hB
      rcases hv with rfl | rfl <;>
      · go_enter Tryz.func5, Tryz.ntmps5
        go_wp2_with fail
        refine (works_any _).mono ?_
        rintro e w3 ⟨rfl, he3⟩
        go_wp2_with fail
        go_ret
        exact ⟨rfl, he3⟩
    by_cases h3 : s < 0
    · clear hB
      rcases hv with rfl | rfl <;>
      · go_enter Tryz.func5, Tryz.ntmps5
        go_wp2_with fail
        refine (works_any _).mono ?_
        rintro e w3 ⟨rfl, he3⟩
        go_wp2_with fail
        go_ret
        exact ⟨rfl, he3⟩
    by_cases h4 : 32767 < s
    · clear hB
      rcases hv with rfl | rfl <;>
      · go_enter Tryz.func5, Tryz.ntmps5
        go_wp2_with fail
        refine (works_any _).mono ?_
        rintro e w3 ⟨rfl, he3⟩
        go_wp2_with fail
        go_ret
        exact ⟨rfl, he3⟩
    by_cases h5 : o < 0
    · clear hB
      rcases hv with rfl | rfl <;>
      · go_enter Tryz.func5, Tryz.ntmps5
        go_wp2_with fail
        refine (works_any _).mono ?_
        rintro e w3 ⟨rfl, he3⟩
        go_wp2_with fail
        go_ret
        exact ⟨rfl, he3⟩
    by_cases h6 : 16 < o
    · clear hB
      rcases hv with rfl | rfl <;>
      · go_enter Tryz.func5, Tryz.ntmps5
        go_wp2_with fail
        refine (works_any _).mono ?_
        rintro e w3 ⟨rfl, he3⟩
        go_wp2_with fail
        go_ret
        exact ⟨rfl, he3⟩
    by_cases h7 : (1000 : Int) < body.length
    · clear hB
      rcases hv with rfl | rfl <;>
      · go_enter Tryz.func5, Tryz.ntmps5
        go_wp2_with fail
        refine (works_any _).mono ?_
        rintro e w3 ⟨rfl, he3⟩
        go_wp2_with fail
        go_ret
        exact ⟨rfl, he3⟩
    exact fnHeader_good v f s o b body A k hv (by omega) (by omega) (by omega) (by omega) w hB
  · have h8 : ¬ v = 3 := fun h => hv (.inl h)
    have h9 : ¬ v = 4 := fun h => hv (.inr h)
    have g8 : (v != 3) = true := by simp [h8]
    have g9 : (v != 4) = true := by simp [h9]
    clear hv hB
    go_enter Tryz.func5, Tryz.ntmps5
    go_wp2_with fail
    refine (works_any _).mono ?_
    rintro e w3 ⟨rfl, he3⟩
    go_wp2_with fail
    go_ret
    exact ⟨rfl, he3⟩
end Go.Proofs.YtammjbmfiakbnaaGreatDoor
