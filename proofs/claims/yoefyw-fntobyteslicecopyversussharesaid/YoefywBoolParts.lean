import Derived.Test.YoefywParts
import Derived.Laws.IdiomStrings
namespace Go.Proofs.Yoefyw.Parts
open Go.RowKit

/-- (*Int).IsFalsy -/
theorem falsy_int (b : Nat) (n : Int) (w : World) (hc : w.cell? ⟨b, 0, none⟩ = some (.int .i64 n)) :
    Calls Efyg.prog 38 #[.pointer (some ⟨b, 0, none⟩)] w fun e w' => e = .returned (.bool (n == 0)) ∧ w = w' := by
  go_enter Efyg.func38, Efyg.ntmps38
  go_wp2
  go_ret
  exact ⟨rfl, rfl⟩

theorem falsy_char (b : Nat) (n : Int) (w : World) (hc : w.cell? ⟨b, 0, none⟩ = some (.int .i32 n)) :
    Calls Efyg.prog 36 #[.pointer (some ⟨b, 0, none⟩)] w fun e w' => e = .returned (.bool (n == 0)) ∧ w = w' := by
  go_enter Efyg.func36, Efyg.ntmps36
  go_wp2
  go_ret
  exact ⟨rfl, rfl⟩

theorem falsy_string (b : Nat) (s : ByteArray) (w : World) (hc : w.cell? ⟨b, 0, none⟩ = some (.string s)) :
    Calls Efyg.prog 32 #[.pointer (some ⟨b, 0, none⟩)] w fun e w' => e = .returned (.bool ((s.size : Int) == 0)) ∧ w = w' := by
  go_enter Efyg.func32, Efyg.ntmps32
  go_wp2
  go_ret
  exact ⟨rfl, rfl⟩

theorem falsy_bytes (b : Nat) (a : Option Addr) (n c : Nat) (w : World) (hc : w.cell? ⟨b, 0, none⟩ = some (.slice a n c)) :
    Calls Efyg.prog 34 #[.pointer (some ⟨b, 0, none⟩)] w fun e w' => e = .returned (.bool ((n : Int) == 0)) ∧ w = w' := by
  go_enter Efyg.func34, Efyg.ntmps34
  go_wp2
  go_ret
  exact ⟨rfl, rfl⟩

theorem method40 (a : Addr) (w : World) : (method 197 40 (.pointer (some a)) "IsFalsy").run Efyg.prog w = .ok (38, .pointer (some a)) w := by kernel_rfl
theorem method37 (a : Addr) (w : World) : (method 197 37 (.pointer (some a)) "IsFalsy").run Efyg.prog w = .ok (36, .pointer (some a)) w := by kernel_rfl
theorem method25 (a : Addr) (w : World) : (method 197 25 (.pointer (some a)) "IsFalsy").run Efyg.prog w = .ok (32, .pointer (some a)) w := by kernel_rfl
theorem method34 (a : Addr) (w : World) : (method 197 34 (.pointer (some a)) "IsFalsy").run Efyg.prog w = .ok (34, .pointer (some a)) w := by kernel_rfl

set_option maxHeartbeats 400000 in
theorem toBool_int (b : Nat) (n : Int) (w : World) (hc : w.cell? ⟨b, 0, none⟩ = some (.int .i64 n)) :
    Calls Efyg.prog 8 #[.iface 40 (.pointer (some ⟨b, 0, none⟩))] w fun e w' => e = .returned (.tuple #[.bool (!(n == 0)), .bool true]) ∧ w = w' := by
  have hm := method40
  go_enter Efyg.func8, Efyg.ntmps8
  go_wp2_with fail
  refine (falsy_int _ n _ hc).mono ?_
  rintro e w1 ⟨rfl, rfl⟩
  go_wp2_with fail
  go_ret2
  exact ⟨rfl, rfl⟩

set_option maxHeartbeats 400000 in
theorem toBool_char (b : Nat) (n : Int) (w : World) (hc : w.cell? ⟨b, 0, none⟩ = some (.int .i32 n)) :
    Calls Efyg.prog 8 #[.iface 37 (.pointer (some ⟨b, 0, none⟩))] w fun e w' => e = .returned (.tuple #[.bool (!(n == 0)), .bool true]) ∧ w = w' := by
  have hm := method37
  go_enter Efyg.func8, Efyg.ntmps8
  go_wp2_with fail
  refine (falsy_char _ n _ hc).mono ?_
  rintro e w1 ⟨rfl, rfl⟩
  go_wp2_with fail
  go_ret2
  exact ⟨rfl, rfl⟩

set_option maxHeartbeats 400000 in
theorem toBool_string (b : Nat) (s : ByteArray) (w : World) (hc : w.cell? ⟨b, 0, none⟩ = some (.string s)) :
    Calls Efyg.prog 8 #[.iface 25 (.pointer (some ⟨b, 0, none⟩))] w fun e w' => e = .returned (.tuple #[.bool (!((s.size : Int) == 0)), .bool true]) ∧ w = w' := by
  have hm := method25
  go_enter Efyg.func8, Efyg.ntmps8
  go_wp2_with fail
  refine (falsy_string _ s _ hc).mono ?_
  rintro e w1 ⟨rfl, rfl⟩
  go_wp2_with fail
  go_ret2
  exact ⟨rfl, rfl⟩

set_option maxHeartbeats 400000 in
theorem toBool_bytes (b : Nat) (a : Option Addr) (n c : Nat) (w : World) (hc : w.cell? ⟨b, 0, none⟩ = some (.slice a n c)) :
    Calls Efyg.prog 8 #[.iface 34 (.pointer (some ⟨b, 0, none⟩))] w fun e w' => e = .returned (.tuple #[.bool (!((n : Int) == 0)), .bool true]) ∧ w = w' := by
  have hm := method34
  go_enter Efyg.func8, Efyg.ntmps8
  go_wp2_with fail
  refine (falsy_bytes _ a n c _ hc).mono ?_
  rintro e w1 ⟨rfl, rfl⟩
  go_wp2_with fail
  go_ret2
  exact ⟨rfl, rfl⟩

/-- ToByteSlice of a '*Bytes': the very slice. -/
theorem toBytes_bytes (b : Nat) (a : Option Addr) (n c : Nat) (w : World) (hc : w.cell? ⟨b, 0, none⟩ = some (.slice a n c)) :
    Calls Efyg.prog 9 #[.iface 34 (.pointer (some ⟨b, 0, none⟩))] w fun e w' => e = .returned (.tuple #[.slice a n c, .bool true]) ∧ w = w' := by
  have ky := fun v w => run_assert_yes (P := Efyg.prog) 34 61 36 Efyg.underlying34 v w
  go_enter Efyg.func9, Efyg.ntmps9
  go_wp2
  go_ret2
  exact ⟨rfl, rfl⟩

/-- What '[]byte(s)' leaves of a world: one draw, one new block. -/
def strWorld (w : World) (s : ByteArray) : World :=
  (w.alloc (.cells (bytesRow s (grownCap w s.size 0 5)) 5 ((bytesRow s (grownCap w s.size 0 5)).size, (bytesRow s (grownCap w s.size 0 5)).size + 1))).drew

/-- ToByteSlice of a '*String': a new row. -/
theorem toBytes_string (b : Nat) (s : ByteArray) (w : World) (hc : w.cell? ⟨b, 0, none⟩ = some (.string s)) :
    Calls Efyg.prog 9 #[.iface 25 (.pointer (some ⟨b, 0, none⟩))] w fun e w' => e = .returned (.tuple #[.slice (some ⟨w.heap.size, 0, none⟩) s.size (grownCap w s.size 0 5), .bool true]) ∧ strWorld w s = w' := by
  have kn := fun v w => run_assert_no (P := Efyg.prog) 25 61 34 36 (.pointer none) Efyg.underlying34 (by decide) zero34 v w
  have ky := fun v w => run_assert_yes (P := Efyg.prog) 25 61 30 Efyg.underlying25 v w
  have kc := run_bytes_of_string (P := Efyg.prog) w 9 31 5 s Efyg.underlying9 Efyg.underlying31 Efyg.underlying5
  go_enter Efyg.func9, Efyg.ntmps9
  go_wp2
  go_ret2
  exact ⟨rfl, rfl⟩

/-- The first cell of a block of two that was just laid. -/
theorem cell_new2 (w : World) (v u : Value) (t : TypeId) (b : Nat) (h : w.heap.size = b) : (w.alloc (.cells #[v, u] t)).cell? ⟨b, 0, none⟩ = some v := by
  subst h; simp

theorem strWorld_size (w : World) (s : ByteArray) : (strWorld w s).heap.size = w.heap.size + 1 := by
  simp [strWorld]

theorem strWorld_below (w : World) (s : ByteArray) : Below w.heap.size w (strWorld w s) :=
  ((Below.refl _ _).alloc (Nat.le_refl _) _).drew

theorem strWorld_cell (w : World) (s : ByteArray) (j : Nat) (hj : j < s.data.size) : (strWorld w s).cell? ⟨w.heap.size, j, none⟩ = some (.int .u8 (s.data[j].toNat : Int)) := by
  show (w.alloc _).cell? _ = _
  rw [World.cell?_alloc_mark, bytesRow_at s _ j hj]

theorem strWorld_frozen (w : World) (s : ByteArray) (j : Nat) (hj : j < s.data.size) : (strWorld w s).frozen? ⟨w.heap.size, j, none⟩ = false := by
  show (w.alloc _).frozen? _ = _
  rw [World.frozen?_alloc_mark]
  have : s.data.size ≤ (bytesRow s (grownCap w s.size 0 5)).size := by simp [bytesRow]
  simp; omega

/-- ToByteSlice of a '*String', the world a letter: a new row that holds the string's bytes; nothing old has turned. -/
theorem toBytes_string' (b : Nat) (s : ByteArray) (w : World) (hc : w.cell? ⟨b, 0, none⟩ = some (.string s)) :
    Calls Efyg.prog 9 #[.iface 25 (.pointer (some ⟨b, 0, none⟩))] w fun e w' => ∃ cap, e = .returned (.tuple #[.slice (some ⟨w.heap.size, 0, none⟩) s.size cap, .bool true]) ∧ Below w.heap.size w w' ∧ Hid (w'.heap.size = w.heap.size + 1) ∧
      Hid (∀ j (hj : j < s.data.size), w'.cell? ⟨w.heap.size, j, none⟩ = some (.int .u8 (s.data[j].toNat : Int)) ∧ w'.frozen? ⟨w.heap.size, j, none⟩ = false) := by
  refine (toBytes_string b s w hc).mono ?_
  rintro e w' ⟨rfl, rfl⟩
  exact ⟨_, rfl, strWorld_below w s, strWorld_size w s, fun j hj => ⟨strWorld_cell w s j hj, strWorld_frozen w s j hj⟩⟩

end Go.Proofs.Yoefyw.Parts
