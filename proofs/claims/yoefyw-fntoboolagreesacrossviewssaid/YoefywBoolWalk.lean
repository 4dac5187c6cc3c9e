import Derived.Test.YoefywBoolParts
import Derived.OpenShut
import Derived.Lib.Strings
namespace Go.Proofs.Yoefyw.ToBool
open Go.RowKit Go.Proofs.Yoefyw.Parts

theorem zz_no (s : ByteArray) (c : Int) (w : World) (h : 1048576 < s.size) (hm : s.size ≤ maxLen) :
    Calls Efyg.prog 7 #[.string s, .int .i32 c] w fun e w' => e = .returned (.bool false) ∧ w = w' := by
  unfold maxLen at hm
  have h' : (1048576 : Int) < (s.size : Int) := by omega
  go_enter Efyg.func7, Efyg.ntmps7
  go_wp2
  go_ret
  exact ⟨rfl, rfl⟩

theorem zz_yes (s : ByteArray) (c : Int) (w : World) (h : s.size ≤ 1048576) :
    Calls Efyg.prog 7 #[.string s, .int .i32 c] w fun e w' => e = .returned (.bool true) ∧ w = w' := by
  have h' : ¬ (1048576 : Int) < (s.size : Int) := by omega
  go_enter Efyg.func7, Efyg.ntmps7
  go_wp2
  go_ret
  exact ⟨rfl, rfl⟩

theorem walk_no (a0 : ByteArray) (a1 : Int) (w0 : a0.size ≤ maxLen) (hb : 1048576 < a0.size) (w : World) :
    Calls Efyg.prog 3 #[.string a0, .int .i32 a1] w fun e w' => e = .returned (.bool true) ∧ Below w.heap.size w w' := by
  go_enter Efyg.func3, Efyg.ntmps3
  go_wp2_with fail
  refine (zz_no _ _ _ hb w0).mono ?_
  rintro e w1 ⟨rfl, rfl⟩
  go_wp2_with fail
  go_ret
  exact ⟨rfl, Below.refl _ _⟩

theorem empty_iff (s : ByteArray) : s.toList.isEmpty = ((s.size : Int) == 0) := by
  have h : s.toList = s.data.toList := Lib.toList_data s
  have hl : s.data.toList.length = s.size := Array.length_toList
  rw [h]
  cases hd : s.data.toList with
  | nil =>
    rw [hd] at hl
    have h0 : s.size = 0 := hl.symm
    rw [h0]; rfl
  | cons a l =>
    rw [hd, List.length_cons] at hl
    have h0 : ((s.size : Int) == 0) = false := beq_eq_false_iff_ne.2 (by omega)
    rw [h0]; rfl

set_option maxHeartbeats 400000 in
theorem walk_yes (a0 : ByteArray) (a1 : Int) (hb : a0.size ≤ 1048576) (h1 : -2147483648 ≤ a1 ∧ a1 ≤ 2147483647) (w : World) :
    Calls Efyg.prog 3 #[.string a0, .int .i32 a1] w fun e w' => e = .returned (.bool true) ∧ Below w.heap.size w w' := by
  have h' : ¬ (1048576 : Int) < (a0.size : Int) := by omega
  have hE := empty_iff a0
  obtain ⟨z, hz⟩ : ∃ z, ((a0.size : Int) == 0) = z := ⟨_, rfl⟩
  rw [hz] at hE
  cases z
  all_goals
    go_enter Efyg.func3, Efyg.ntmps3
    go_wp2_with fail
    refine (zz_yes _ _ _ hb).mono ?_
    rintro e w1 ⟨rfl, rfl⟩
    go_wp2_with fail
    refine (toBool_string _ a0 _ (cell_new2 _ _ _ _ _ rfl)).mono ?_
    rintro e w1 ⟨rfl, rfl⟩
    go_wp2_with fail
    refine (toBytes_string' _ a0 _ (cell_new2 _ _ _ _ _ (by simp))).mono ?_
    rintro e w1 ⟨cap, rfl, hbel, HZ, HC⟩
    clear HZ HC
    go_wp2_with fail
    refine (toBool_bytes _ _ _ _ _ (cell_new _ _ _ _ rfl)).mono ?_
    rintro e w2 ⟨rfl, rfl⟩
    go_wp2_with fail
    refine (toBool_char _ a1 _ (cell_new _ _ _ _ (by simp))).mono ?_
    rintro e w2 ⟨rfl, rfl⟩
    go_wp2_with fail
    refine (toBool_int _ a1 _ (cell_new _ _ _ _ (by simp))).mono ?_
    rintro e w2 ⟨rfl, rfl⟩
    go_wp2_with fail
    go_ret
    refine ⟨rfl, ?_⟩
    have hs := hbel.size
    simp only [World.size_alloc] at hs
    exact (((((((Below.refl _ _).alloc (Nat.le_refl _) _).alloc (by simp) _).trans (hbel.mono (by simp; omega))).alloc (by omega) _).alloc (by simp; omega) _).alloc (by simp; omega) _)

theorem walk (a0 : ByteArray) (a1 : Int) (w0 : a0.size ≤ maxLen) (w1 : (Lit.int .i32 a1).wf = true) (w : World) :
    Calls Efyg.prog 3 #[.string a0, .int .i32 a1] w fun e w' => e = .returned (.bool true) ∧ Below w.heap.size w w' := by
  by_cases hb : a0.size ≤ 1048576
  · exact walk_yes a0 a1 hb (bounds_i32 w1) w
  · exact walk_no a0 a1 w0 (by omega) w
#print axioms walk

end Go.Proofs.Yoefyw.ToBool
