import Derived.Test.YoefywClone
import Derived.Test.YoefywPlain
namespace Go.Proofs.Yoefyw.Table
open Go.RowKit Go.Proofs.Yoefyw.Parts

set_option maxHeartbeats 400000 in
theorem zz_no (n c : Int) (x : Value) (s : ByteArray) (a : Option Addr) (len cap : Nat) (b : Bool) (w : World) (hs : s.size ≤ maxLen) (hl : len ≤ maxLen) (h : 1048576 < s.size + len) :
    Calls Efyg.prog 10 #[.int .i64 n, .int .i32 c, x, .string s, .slice a len cap, .bool b] w fun e w' => e = .returned (.bool false) ∧ w = w' := by
  unfold maxLen at hs hl
  by_cases h1 : (1048576 : Int) < (s.size : Int)
  · go_enter Efyg.func10, Efyg.ntmps10
    go_wp2
    go_ret
    exact ⟨rfl, rfl⟩
  · by_cases h2 : (1048576 : Int) < (len : Int)
    · go_enter Efyg.func10, Efyg.ntmps10
      go_wp2
      go_ret
      exact ⟨rfl, rfl⟩
    · have h3 : (1048576 : Int) < (s.size : Int) + (len : Int) := by omega
      go_enter Efyg.func10, Efyg.ntmps10
      go_wp2
      go_ret
      exact ⟨rfl, rfl⟩

theorem zz_yes (n c : Int) (x : Value) (s : ByteArray) (a : Option Addr) (len cap : Nat) (b : Bool) (w : World) (h : s.size + len ≤ 1048576) :
    Calls Efyg.prog 10 #[.int .i64 n, .int .i32 c, x, .string s, .slice a len cap, .bool b] w fun e w' => e = .returned (.bool true) ∧ w = w' := by
  have h1 : ¬ (1048576 : Int) < (s.size : Int) := by omega
  have h2 : ¬ (1048576 : Int) < (len : Int) := by omega
  have h3 : ¬ (1048576 : Int) < (s.size : Int) + (len : Int) := by omega
  go_enter Efyg.func10, Efyg.ntmps10
  go_wp2
  go_ret
  exact ⟨rfl, rfl⟩

theorem newBool (b : Bool) (w : World) :
    Calls Efyg.prog 13 #[.bool b] w fun e w' => e = .returned (.pointer (some ⟨w.heap.size, 0, none⟩)) ∧ w.alloc (.cells #[.bool b] 64) = w' := by
  go_enter Efyg.func13, Efyg.ntmps13
  go_wp2
  go_ret
  exact ⟨rfl, rfl⟩

theorem walk_no (n c : Int) (x : Value) (s : ByteArray) (a : Option Addr) (len cap : Nat) (b : Bool) (w : World) (hs : s.size ≤ maxLen) (hl : len ≤ maxLen) (h : 1048576 < s.size + len) :
    Calls Efyg.prog 4 #[.int .i64 n, .int .i32 c, x, .string s, .slice a len cap, .bool b] w fun e w' => e = .returned (.bool true) ∧ Below w.heap.size w w' := by
  go_enter Efyg.func4, Efyg.ntmps4
  go_wp2_with fail
  refine (zz_no _ _ _ _ _ _ _ _ _ hs hl h).mono ?_
  rintro e w1 ⟨rfl, rfl⟩
  go_wp2_with fail
  go_ret
  exact ⟨rfl, Below.refl _ _⟩

set_option maxHeartbeats 400000 in
/-- THE REST BEHIND cloneB2's ANSWER, whatever that is. -/
theorem walk_yes (n c : Int) (k : FloatKind) (f : Nat) (s : ByteArray) (a a' : Option Addr) (len cap cap' : Nat) (b : Bool) (w : World) (h : s.size + len ≤ 1048576)
    (hcl : Hid (Calls Efyg.prog 11 #[.slice a len cap] w fun e w' => e = .returned (.slice a' len cap') ∧ Below w.heap.size w w')) :
    Calls Efyg.prog 4 #[.int .i64 n, .int .i32 c, .float k f, .string s, .slice a len cap, .bool b] w fun e w' => e = .returned (.bool true) ∧ Below w.heap.size w w' := by
  have h1 : ¬ (1048576 : Int) < (len : Int) := by omega
  have h2 : ¬ (1048576 : Int) < (s.size : Int) := by omega
  have h3 : ¬ (1048576 : Int) < (len : Int) + (s.size : Int) := by omega
  have hg := Plain.congruent n
  go_enter Efyg.func4, Efyg.ntmps4
  go_wp2_with fail
  refine (zz_yes _ _ _ _ _ _ _ _ _ h).mono ?_
  rintro e w1 ⟨rfl, rfl⟩
  go_wp2_with fail
  refine hcl.out.mono ?_
  rintro e w1 ⟨rfl, hbel⟩
  clear hcl
  go_wp2_with fail
  refine (toRune_int _ n _ (cell_new _ _ _ _ rfl)).mono ?_
  rintro e w2 ⟨rfl, rfl⟩
  go_wp2_with fail
  refine (toRune_char _ c _ (cell_new _ _ _ _ (by simp))).mono ?_
  rintro e w2 ⟨rfl, rfl⟩
  go_wp2_with fail
  refine (toRune_other _ _ (by decide) (by decide) _).mono ?_
  rintro e w2 ⟨rfl, rfl⟩
  go_wp2_with fail
  refine (toRune_other _ _ (by decide) (by decide) _).mono ?_
  rintro e w2 ⟨rfl, rfl⟩
  go_wp2_with fail
  refine (toRune_other _ _ (by decide) (by decide) _).mono ?_
  rintro e w2 ⟨rfl, rfl⟩
  go_wp2_with fail
  refine (newBool _ _).mono ?_
  rintro e w2 ⟨rfl, rfl⟩
  go_wp2_with fail
  refine (toRune_other _ _ (by decide) (by decide) _).mono ?_
  rintro e w2 ⟨rfl, rfl⟩
  go_wp2_with fail
  refine (toRune_other _ _ (by decide) (by decide) _).mono ?_
  rintro e w2 ⟨rfl, rfl⟩
  go_wp2_with fail
  go_ret
  refine ⟨rfl, ?_⟩
  have hs := hbel.size
  exact ((((((hbel.alloc hs _).alloc (by simp; omega) _).alloc (by simp; omega) _).alloc (by simp; omega) _).alloc (by simp; omega) _).alloc (by simp; omega) _).alloc (by simp; omega) _

/-- WHAT THE WALK IS TOLD OF A SLICE OF INTEGERS THAT CAME IN: it is nil; or it leads to a row of 'cap' cells, the numbers 'zs'. -/
def IsRow (k : IntKind) (w : World) (a : Option Addr) (len cap : Nat) (zs : List Int) : Prop :=
  (a = none ∧ len = 0 ∧ cap = 0 ∧ zs = []) ∨
  ∃ x, a = some x ∧ len ≤ cap ∧ cap ≤ maxLen ∧ zs.length = cap ∧ (∀ i, i < zs.length → w.cell? (x.add i) = some (.int k (zs.getD i 0))) ∧ ∀ n ∈ zs, (Lit.int k n).wf = true

theorem walk (n c : Int) (k : FloatKind) (f : Nat) (s : ByteArray) (a : Option Addr) (len cap : Nat) (zs : List Int) (b : Bool) (w : World)
    (hs : s.size ≤ maxLen) (hr : IsRow .u8 w a len cap zs) :
    Calls Efyg.prog 4 #[.int .i64 n, .int .i32 c, .float k f, .string s, .slice a len cap, .bool b] w fun e w' => e = .returned (.bool true) ∧ Below w.heap.size w w' := by
  have hl : len ≤ maxLen := by
    rcases hr with ⟨_, rfl, _, _⟩ | ⟨x, _, h1, h2, _⟩
    · exact Nat.zero_le _
    · omega
  by_cases h : s.size + len ≤ 1048576
  · rcases hr with ⟨rfl, rfl, rfl, rfl⟩ | ⟨x, rfl, hlc, hm, hz, hcell, hwz⟩
    · refine walk_yes n c k f s none none 0 0 0 b w h ?_
      refine (clone_nil w).mono ?_
      rintro e w' ⟨rfl, rfl⟩
      exact ⟨rfl, Below.refl _ _⟩
    · refine walk_yes n c k f s (some x) (some ⟨w.heap.size, 0, none⟩) len cap len b w h ?_
      refine (clone_any x len cap zs w (by omega) (fun i hi => hcell i (by omega))).mono ?_
      rintro e w' ⟨rfl, hb, _, _⟩
      exact ⟨rfl, hb⟩
  · exact walk_no n c _ s a len cap b w hs hl (by omega)
#print axioms walk

end Go.Proofs.Yoefyw.Table
