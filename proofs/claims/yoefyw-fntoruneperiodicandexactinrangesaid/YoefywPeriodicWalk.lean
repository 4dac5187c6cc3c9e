import Derived.Test.YoefywParts
import Derived.OpenShut
namespace Go.Proofs.Yoefyw.Periodic
open Go.RowKit Go.Proofs.Yoefyw.Parts

theorem back (n : Int) : (wrap32 (n + 4294967296) != wrap32 n) = false := by
  have h : wrap32 (n + 4294967296) = wrap32 n := by unfold wrap32; omega
  rw [h]; simp

theorem exact_in (n : Int) (h2 : -2147483648 ≤ n) (h3 : n < 2147483648) : (wrap64 (wrap32 n) != n) = false := by
  have e : wrap32 n = n := by unfold wrap32; omega
  have e' : wrap64 n = n := by unfold wrap64; omega
  rw [e, e']; simp

set_option maxHeartbeats 400000 in
/-- the walk: 'Grown': at most new blocks. -/
theorem walk (a0 : Int) (w0 : (Lit.int .i64 a0).wf = true) (w : World) :
    Calls Efyg.prog 5 #[.int .i64 a0] w fun e w' => e = .returned (.bool true) ∧ Grown w w' := by
  have hb := bounds_i64 w0
  have hx := back a0
  clear w0
  by_cases h1 : a0 ≤ 9223372032559808511
  · by_cases h2 : -2147483648 ≤ a0
    · by_cases h3 : a0 < 2147483648
      · have hy := exact_in a0 h2 h3
        go_enter Efyg.func5, Efyg.ntmps5
        go_wp2_with fail
        refine (toRune_int _ a0 _ (cell_new _ _ _ _ (by simp))).mono ?_
        rintro e w1 ⟨rfl, rfl⟩
        go_wp2_with fail
        refine (toRune_int _ (a0 + 4294967296) _ (cell_new _ _ _ _ (by simp))).mono ?_
        rintro e w1 ⟨rfl, rfl⟩
        go_wp2_with fail
        refine (toRune_char _ (wrap32 a0) _ (cell_new _ _ _ _ (by simp))).mono ?_
        rintro e w1 ⟨rfl, rfl⟩
        go_wp2_with fail
        go_ret
        exact ⟨rfl, by repeat (first | exact Grown.refl _ | apply Grown.drew | apply Grown.alloc)⟩
      · go_enter Efyg.func5, Efyg.ntmps5
        go_wp2_with fail
        refine (toRune_int _ a0 _ (cell_new _ _ _ _ (by simp))).mono ?_
        rintro e w1 ⟨rfl, rfl⟩
        go_wp2_with fail
        refine (toRune_int _ (a0 + 4294967296) _ (cell_new _ _ _ _ (by simp))).mono ?_
        rintro e w1 ⟨rfl, rfl⟩
        go_wp2_with fail
        go_ret
        exact ⟨rfl, by repeat (first | exact Grown.refl _ | apply Grown.drew | apply Grown.alloc)⟩
    · go_enter Efyg.func5, Efyg.ntmps5
      go_wp2_with fail
      refine (toRune_int _ a0 _ (cell_new _ _ _ _ (by simp))).mono ?_
      rintro e w1 ⟨rfl, rfl⟩
      go_wp2_with fail
      refine (toRune_int _ (a0 + 4294967296) _ (cell_new _ _ _ _ (by simp))).mono ?_
      rintro e w1 ⟨rfl, rfl⟩
      go_wp2_with fail
      go_ret
      exact ⟨rfl, by repeat (first | exact Grown.refl _ | apply Grown.drew | apply Grown.alloc)⟩
  · have h2 : -2147483648 ≤ a0 := by omega
    have h3 : ¬ a0 < 2147483648 := by omega
    go_enter Efyg.func5, Efyg.ntmps5
    go_wp2_with fail
    refine (toRune_int _ a0 _ (cell_new _ _ _ _ (by simp))).mono ?_
    rintro e w1 ⟨rfl, rfl⟩
    go_wp2_with fail
    go_ret
    exact ⟨rfl, by repeat (first | exact Grown.refl _ | apply Grown.drew | apply Grown.alloc)⟩
#print axioms walk
end Go.Proofs.Yoefyw.Periodic
