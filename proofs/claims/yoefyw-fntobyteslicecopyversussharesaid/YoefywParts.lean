import Derived.Test.YoefywRows
import Derived.WalkKit
import Derived.WalkLawsBesides
import Derived.WalkSpells
import Derived.Outline
namespace Go.Proofs.Yoefyw.Parts
open Go.RowKit

section
variable {P : Program}

/-- 'x.(*T)', with the comma, the dynamic type being *T. -/
theorem run_assert_yes (t xT e : TypeId) (hu : P.underlying t = some (.pointer e)) (v : Value) (w : World) :
    (Instr.typeAssert (.iface t v) xT t true).run P w = .ok (.tuple #[v, .bool true]) w := by
  simp [Instr.typeAssert, run_underlying hu]

/-- 'x.(*T)', with the comma, the dynamic type being another. -/
theorem run_assert_no (t xT u e : TypeId) (z : Value) (hu : P.underlying u = some (.pointer e)) (hne : t ≠ u) (hz : (P.info? u).map (·.zero) = some (some z)) (v : Value) (w : World) :
    (Instr.typeAssert (.iface t v) xT u true).run P w = .ok (.tuple #[z, .bool false]) w := by
  obtain ⟨j, hj, hz'⟩ := Option.map_eq_some_iff.1 hz
  simp [Instr.typeAssert, run_underlying hu, hne, zeroValue, typeInfo, hj, hz']
end

/-- The one cell of a block that was just laid. -/
theorem cell_new (w : World) (v : Value) (t : TypeId) (b : Nat) (h : w.heap.size = b) : (w.alloc (.cells #[v] t)).cell? ⟨b, 0, none⟩ = some v := by
  subst h; simp

theorem zero40 : (Efyg.prog.info? 40).map (·.zero) = some (some (.pointer none)) := by kernel_rfl
theorem zero37 : (Efyg.prog.info? 37).map (·.zero) = some (some (.pointer none)) := by kernel_rfl
theorem zero34 : (Efyg.prog.info? 34).map (·.zero) = some (some (.pointer none)) := by kernel_rfl

/-- ToRune of an '*Int' whose cell holds n. -/
theorem toRune_int (b : Nat) (n : Int) (w : World) (hc : w.cell? ⟨b, 0, none⟩ = some (.int .i64 n)) :
    Calls Efyg.prog 12 #[.iface 40 (.pointer (some ⟨b, 0, none⟩))] w fun e w' => e = .returned (.tuple #[.int .i32 (wrap32 n), .bool true]) ∧ w = w' := by
  have ky := fun v w => run_assert_yes (P := Efyg.prog) 40 61 42 Efyg.underlying40 v w
  go_enter Efyg.func12, Efyg.ntmps12
  go_wp2
  go_ret2
  exact ⟨rfl, rfl⟩

/-- ToRune of a '*Char' whose cell holds c. -/
theorem toRune_char (b : Nat) (c : Int) (w : World) (hc : w.cell? ⟨b, 0, none⟩ = some (.int .i32 c)) :
    Calls Efyg.prog 12 #[.iface 37 (.pointer (some ⟨b, 0, none⟩))] w fun e w' => e = .returned (.tuple #[.int .i32 c, .bool true]) ∧ w = w' := by
  have kn := fun v w => run_assert_no (P := Efyg.prog) 37 61 40 42 (.pointer none) Efyg.underlying40 (by decide) zero40 v w
  have ky := fun v w => run_assert_yes (P := Efyg.prog) 37 61 39 Efyg.underlying37 v w
  go_enter Efyg.func12, Efyg.ntmps12
  go_wp2
  go_ret2
  exact ⟨rfl, rfl⟩

/-- ToRune of whatever else. -/
theorem toRune_other (t : TypeId) (v : Value) (h40 : t ≠ 40) (h37 : t ≠ 37) (w : World) :
    Calls Efyg.prog 12 #[.iface t v] w fun e w' => e = .returned (.tuple #[.int .i32 0, .bool false]) ∧ w = w' := by
  have kn := fun v w => run_assert_no (P := Efyg.prog) t 61 40 42 (.pointer none) Efyg.underlying40 h40 zero40 v w
  have kn' := fun v w => run_assert_no (P := Efyg.prog) t 61 37 39 (.pointer none) Efyg.underlying37 h37 zero37 v w
  go_enter Efyg.func12, Efyg.ntmps12
  go_wp2
  go_ret2
  exact ⟨rfl, rfl⟩

end Go.Proofs.Yoefyw.Parts
