import Derived.Test.YoefywBoolParts
import Derived.Test.YoefywClone
import Derived.Test.YoefywSame
namespace Go.Proofs.Yoefyw.Copy
open Go.RowKit Go.Proofs.Yoefyw.Parts

set_option maxHeartbeats 400000 in
theorem zz_no (s : ByteArray) (a : Option Addr) (len cap : Nat) (w : World) (hs : s.size ≤ maxLen) (hl : len ≤ maxLen) (h : 1048576 < s.size + len) :
    Calls Efyg.prog 14 #[.string s, .slice a len cap] w fun e w' => e = .returned (.bool false) ∧ w = w' := by
  unfold maxLen at hs hl
  by_cases h1 : (1048576 : Int) < (s.size : Int)
  · go_enter Efyg.func14, Efyg.ntmps14
    go_wp2
    go_ret
    exact ⟨rfl, rfl⟩
  · by_cases h2 : (1048576 : Int) < (len : Int)
    · go_enter Efyg.func14, Efyg.ntmps14
      go_wp2
      go_ret
      exact ⟨rfl, rfl⟩
    · have h3 : (1048576 : Int) < (s.size : Int) + (len : Int) := by omega
      go_enter Efyg.func14, Efyg.ntmps14
      go_wp2
      go_ret
      exact ⟨rfl, rfl⟩

theorem zz_yes (s : ByteArray) (a : Option Addr) (len cap : Nat) (w : World) (h : s.size + len ≤ 1048576) :
    Calls Efyg.prog 14 #[.string s, .slice a len cap] w fun e w' => e = .returned (.bool true) ∧ w = w' := by
  have h1 : ¬ (1048576 : Int) < (s.size : Int) := by omega
  have h2 : ¬ (1048576 : Int) < (len : Int) := by omega
  have h3 : ¬ (1048576 : Int) < (s.size : Int) + (len : Int) := by omega
  go_enter Efyg.func14, Efyg.ntmps14
  go_wp2
  go_ret
  exact ⟨rfl, rfl⟩

theorem walk_no (s : ByteArray) (a : Option Addr) (len cap : Nat) (w : World) (hs : s.size ≤ maxLen) (hl : len ≤ maxLen) (h : 1048576 < s.size + len) :
    Calls Efyg.prog 6 #[.string s, .slice a len cap] w fun e w' => e = .returned (.bool true) ∧ Below w.heap.size w w' := by
  go_enter Efyg.func6, Efyg.ntmps6
  go_wp2_with fail
  refine (zz_no _ _ _ _ _ hs hl h).mono ?_
  rintro e w1 ⟨rfl, rfl⟩
  go_wp2_with fail
  go_ret
  exact ⟨rfl, Below.refl _ _⟩

theorem cell_set_other (w : World) (b b' i : Nat) (v : Value) (h : b ≠ b') : (w.setCell ⟨b', i, none⟩ v).cell? ⟨b, 0, none⟩ = w.cell? ⟨b, 0, none⟩ :=
  World.cell?_of_block (w := w) (Below.heap_setCell w ⟨b', i, none⟩ v b h)

theorem frozen_set_other (w : World) (b b' i : Nat) (v : Value) (h : b ≠ b') : (w.setCell ⟨b', i, none⟩ v).frozen? ⟨b, 0, none⟩ = w.frozen? ⟨b, 0, none⟩ :=
  World.frozen?_of_block (w := w) (Below.heap_setCell w ⟨b', i, none⟩ v b h)

/-- WHAT LIES THERE BEHIND THE TWO CONVERSIONS: the String's own block, the first row, the second. -/
theorem two_rows {w1 w3 w4 : World} {s : ByteArray} (o : Obj) (hs : 0 < s.size) (hso : (w1.alloc o).cell? ⟨w1.heap.size, 0, none⟩ = some (.string s)) (hb3 : Below (w1.alloc o).heap.size (w1.alloc o) w3) (hz3 : Hid (w3.heap.size = (w1.alloc o).heap.size + 1))
    (hc3 : Hid (∀ j (hj : j < s.data.size), w3.cell? ⟨(w1.alloc o).heap.size, j, none⟩ = some (.int .u8 (s.data[j].toNat : Int)) ∧ w3.frozen? ⟨(w1.alloc o).heap.size, j, none⟩ = false))
    (hb4 : Below w3.heap.size w3 w4) (hz4 : Hid (w4.heap.size = w3.heap.size + 1))
    (hc4 : Hid (∀ j (hj : j < s.data.size), w4.cell? ⟨w3.heap.size, j, none⟩ = some (.int .u8 (s.data[j].toNat : Int)) ∧ w4.frozen? ⟨w3.heap.size, j, none⟩ = false)) :
    w4.cell? ⟨w1.heap.size + 1, 0, none⟩ = some (.int .u8 (s[0].toNat : Int)) ∧ w4.frozen? ⟨w1.heap.size + 1, 0, none⟩ = false ∧
    (∀ v, (w4.setCell ⟨w1.heap.size + 1, 0, none⟩ v).cell? ⟨w3.heap.size, 0, none⟩ = some (.int .u8 (s[0].toNat : Int))) ∧
    (∀ v, (w4.setCell ⟨w1.heap.size + 1, 0, none⟩ v).cell? ⟨w1.heap.size, 0, none⟩ = some (.string s)) ∧ Below w1.heap.size w1 w4 ∧ w1.heap.size + 3 = w4.heap.size := by
  have e3 := hz3.out
  have e4 := hz4.out
  rw [World.size_alloc] at e3
  have c3 := hc3.out 0 hs
  have c4 := hc4.out 0 hs
  rw [World.size_alloc] at c3
  have k3 : Below w1.heap.size w1 w3 := ((Below.refl _ _).alloc (Nat.le_refl _) o).trans (hb3.mono (by simp))
  refine ⟨?_, ?_, fun v => ?_, fun v => ?_, k3.trans (hb4.mono (by omega)), by omega⟩
  · rw [hb4.cell (p := ⟨w1.heap.size + 1, 0, none⟩) (by show w1.heap.size + 1 < _; omega)]; exact c3.1
  · rw [hb4.frozen (p := ⟨w1.heap.size + 1, 0, none⟩) (by show w1.heap.size + 1 < _; omega)]; exact c3.2
  · rw [cell_set_other _ _ _ _ _ (by omega)]; exact c4.1
  · rw [cell_set_other _ _ _ _ _ (by omega), hb4.cell (p := ⟨w1.heap.size, 0, none⟩) (by show w1.heap.size < _; omega), hb3.cell (p := ⟨w1.heap.size, 0, none⟩) (by show w1.heap.size < _; simp)]; exact hso

/-- .. AND BEHIND THE THIRD, in the world in which the first row has been written. -/
theorem third_row {w1 w4 w6 : World} {s : ByteArray} (u : Value) (nq : Nat) (hk4 : Hid (Below w1.heap.size w1 w4 ∧ w1.heap.size + 3 = w4.heap.size))
    (hb6 : Below ((w4.setCell ⟨w1.heap.size + 1, 0, none⟩ u).drewN nq).heap.size ((w4.setCell ⟨w1.heap.size + 1, 0, none⟩ u).drewN nq) w6)
    (hc6 : Hid (∀ j (hj : j < s.data.size), w6.cell? ⟨((w4.setCell ⟨w1.heap.size + 1, 0, none⟩ u).drewN nq).heap.size, j, none⟩ = some (.int .u8 (s.data[j].toNat : Int)) ∧ w6.frozen? ⟨((w4.setCell ⟨w1.heap.size + 1, 0, none⟩ u).drewN nq).heap.size, j, none⟩ = false)) :
    (∀ j (hj : j < s.size), w6.cell? ⟨w4.heap.size, j, none⟩ = some (.int .u8 (s[j].toNat : Int))) ∧ Below w1.heap.size w1 w6 := by
  obtain ⟨hk, hz⟩ := hk4.out
  have hsz : ((w4.setCell ⟨w1.heap.size + 1, 0, none⟩ u).drewN nq).heap.size = w4.heap.size := by simp
  have c6 := hc6.out
  rw [hsz] at c6 hb6
  refine ⟨fun j hj => (c6 j hj).1, ?_⟩
  have hk5 : Below w1.heap.size w1 ((w4.setCell ⟨w1.heap.size + 1, 0, none⟩ u).drewN nq) := by
    have h := hk.setCell (p := ⟨w1.heap.size + 1, 0, none⟩) (by show w1.heap.size ≤ w1.heap.size + 1; omega) u
    exact ⟨h.os, h.tape, h.output, h.size, h.block⟩
  exact hk5.trans (hb6.mono (by omega))

theorem below_draws {B : Nat} {a w w' : World} (h : Below B a w) (hq : ∃ q, w' = w.drewN q) : Below B a w' := by
  obtain ⟨q, rfl⟩ := hq
  exact ⟨h.os, h.tape, h.output, h.size, h.block⟩

/-- WHAT LIES THERE OF THE COPY at the end. -/
theorem tail_facts {w w1 w7 : World} {x : Int} (hlt : w.heap.size < w1.heap.size) (hx : Hid (w1.cell? ⟨w.heap.size, 0, none⟩ = some (.int .u8 x) ∧ w1.frozen? ⟨w.heap.size, 0, none⟩ = false)) (hk : Below w1.heap.size w1 w7) :
    (∀ o, (w7.alloc o).cell? ⟨w.heap.size, 0, none⟩ = some (.int .u8 x)) ∧ (∀ o, (w7.alloc o).frozen? ⟨w.heap.size, 0, none⟩ = false) ∧
    (∀ o v, ((w7.alloc o).setCell ⟨w.heap.size, 0, none⟩ v).cell? ⟨w.heap.size, 0, none⟩ = some v) ∧
    (∀ (v u : Value) (t : TypeId), ((w7.alloc (.cells #[u] t)).setCell ⟨w.heap.size, 0, none⟩ v).cell? ⟨w7.heap.size, 0, none⟩ = some u) := by
  have hs := hk.size
  have a1 : ∀ o, (w7.alloc o).cell? ⟨w.heap.size, 0, none⟩ = some (.int .u8 x) := fun o => by
    have h := hk.alloc hs o
    rw [h.cell (p := ⟨w.heap.size, 0, none⟩) hlt]; exact hx.out.1
  refine ⟨a1, fun o => ?_, fun o v => ?_, fun v u t => ?_⟩
  · have h := hk.alloc hs o
    rw [h.frozen (p := ⟨w.heap.size, 0, none⟩) hlt]; exact hx.out.2
  · have h := a1 o
    exact World.cell?_setCell_same' _ _ _ (by rw [h]; rfl)
  · rw [cell_set_other _ _ _ _ _ (by omega)]
    exact cell_new _ _ _ _ rfl

theorem two_below {w1 w3 w4 : World} (o : Obj) (hb3 : Below (w1.alloc o).heap.size (w1.alloc o) w3) (hb4 : Below w3.heap.size w3 w4) : Below w1.heap.size w1 w4 := by
  have h3 := hb3.size
  simp only [World.size_alloc] at h3
  exact (((Below.refl _ _).alloc (Nat.le_refl _) o).trans (hb3.mono (by simp))).trans (hb4.mono (by omega))

set_option maxHeartbeats 800000 in
/-- both not empty -/
theorem walk_both (s : ByteArray) (a : Option Addr) (len cap : Nat) (x : Int) (w : World) (h : s.size + len ≤ 1048576) (hs0 : 0 < s.size) (hl0 : 0 < len)
    (hcl : Hid (Calls Efyg.prog 11 #[.slice a len cap] w fun e w' => e = .returned (.slice (some ⟨w.heap.size, 0, none⟩) len len) ∧ Below w.heap.size w w' ∧ w.heap.size < w'.heap.size ∧ Hid (w'.cell? ⟨w.heap.size, 0, none⟩ = some (.int .u8 x) ∧ w'.frozen? ⟨w.heap.size, 0, none⟩ = false))) :
    Calls Efyg.prog 6 #[.string s, .slice a len cap] w fun e w' => e = .returned (.bool true) ∧ Below w.heap.size w w' := by
  have h1 : ¬ (1048576 : Int) < (len : Int) := by omega
  have h2 : ¬ (1048576 : Int) < (s.size : Int) := by omega
  have h3 : ¬ (1048576 : Int) < (len : Int) + (s.size : Int) := by omega
  have h4 : (0 : Int) < (s.size : Int) := by omega
  have h5 : (0 : Int) < (len : Int) := by omega
  go_enter Efyg.func6, Efyg.ntmps6
  go_wp2_with fail
  refine (zz_yes _ _ _ _ _ h).mono ?_
  rintro e w1 ⟨rfl, rfl⟩
  go_wp2_with fail
  refine hcl.out.mono ?_
  rintro e w1 ⟨rfl, hbel, hlt, HX⟩
  clear hcl
  go_wp2_with fail
  refine (toBytes_string' _ s _ (cell_new2 _ _ _ _ _ rfl)).mono ?_
  rintro e w3 ⟨cap3, rfl, hbel3, HZ3, HC3⟩
  have hso3 : w3.cell? ⟨w1.heap.size, 0, none⟩ = some (.string s) := (hbel3.cell (p := ⟨w1.heap.size, 0, none⟩) (by simp)).trans (cell_new2 _ _ _ _ _ rfl)
  go_wp2_with fail
  refine (toBytes_string' _ s _ hso3).mono ?_
  rintro e w4 ⟨cap4, rfl, hbel4, HZ4, HC4⟩
  obtain ⟨hv1, hf1, hv2, hso4, hk4, hz⟩ := two_rows _ hs0 (cell_new2 _ _ _ _ _ rfl) hbel3 HZ3 HC3 hbel4 HZ4 HC4
  have HK4 : Hid (Below w1.heap.size w1 w4 ∧ w1.heap.size + 3 = w4.heap.size) := ⟨hk4, hz⟩
  clear hbel3 HZ3 HC3 hbel4 HZ4 HC4 hk4 hz hso3
  go_wp2_with fail
  go_quiet (fail)
  go_wp2_with fail
  refine (toBytes_string' _ s _ (by exact hso4 _)).mono ?_
  rintro e w6 ⟨cap6, rfl, hbel6, HZ6, HC6⟩
  go_wp2_with fail
  obtain ⟨hrow6, hk6⟩ := third_row _ _ HK4 hbel6 HC6
  clear hbel6 HZ6 HC6
  refine (same_yes _ _ s _ (by omega) hrow6).mono ?_
  rintro e w7 ⟨rfl, hq⟩
  have hk7 := below_draws hk6 hq
  clear hq hrow6 hk6 HK4 hv1 hf1 hv2 hso4
  obtain ⟨hx1, hx2, hx3, hx4⟩ := tail_facts hlt HX hk7
  go_wp2_with fail
  refine (toBytes_bytes _ _ _ _ _ (cell_new _ _ _ _ rfl)).mono ?_
  rintro e w8 ⟨rfl, rfl⟩
  go_wp2_with fail
  go_ret
  have k := hbel.trans (hk7.mono (Nat.le_of_lt hlt))
  exact ⟨rfl, (k.alloc k.size _).setCell (Nat.le_refl _) _⟩

set_option maxHeartbeats 800000 in
/-- the string not empty, the slice empty or nil -/
theorem walk_string (s : ByteArray) (a a' : Option Addr) (cap cap' : Nat) (w : World) (h : s.size ≤ 1048576) (hs0 : 0 < s.size)
    (hcl : Hid (Calls Efyg.prog 11 #[.slice a 0 cap] w fun e w' => e = .returned (.slice a' 0 cap') ∧ Below w.heap.size w w')) :
    Calls Efyg.prog 6 #[.string s, .slice a 0 cap] w fun e w' => e = .returned (.bool true) ∧ Below w.heap.size w w' := by
  have h2 : ¬ (1048576 : Int) < (s.size : Int) := by omega
  have h4 : (0 : Int) < (s.size : Int) := by omega
  go_enter Efyg.func6, Efyg.ntmps6
  go_wp2_with fail
  refine (zz_yes _ _ _ _ _ (by omega)).mono ?_
  rintro e w1 ⟨rfl, rfl⟩
  go_wp2_with fail
  refine hcl.out.mono ?_
  rintro e w1 ⟨rfl, hbel⟩
  clear hcl
  go_wp2_with fail
  refine (toBytes_string' _ s _ (cell_new2 _ _ _ _ _ rfl)).mono ?_
  rintro e w3 ⟨cap3, rfl, hbel3, HZ3, HC3⟩
  have hso3 : w3.cell? ⟨w1.heap.size, 0, none⟩ = some (.string s) := (hbel3.cell (p := ⟨w1.heap.size, 0, none⟩) (by simp)).trans (cell_new2 _ _ _ _ _ rfl)
  go_wp2_with fail
  refine (toBytes_string' _ s _ hso3).mono ?_
  rintro e w4 ⟨cap4, rfl, hbel4, HZ4, HC4⟩
  obtain ⟨hv1, hf1, hv2, hso4, hk4, hz⟩ := two_rows _ hs0 (cell_new2 _ _ _ _ _ rfl) hbel3 HZ3 HC3 hbel4 HZ4 HC4
  have HK4 : Hid (Below w1.heap.size w1 w4 ∧ w1.heap.size + 3 = w4.heap.size) := ⟨hk4, hz⟩
  clear hbel3 HZ3 HC3 hbel4 HZ4 HC4 hk4 hz hso3
  go_wp2_with fail
  go_quiet (fail)
  go_wp2_with fail
  refine (toBytes_string' _ s _ (by exact hso4 _)).mono ?_
  rintro e w6 ⟨cap6, rfl, hbel6, HZ6, HC6⟩
  go_wp2_with fail
  obtain ⟨hrow6, hk6⟩ := third_row _ _ HK4 hbel6 HC6
  clear hbel6 HZ6 HC6
  refine (same_yes _ _ s _ (by omega) hrow6).mono ?_
  rintro e w7 ⟨rfl, hq⟩
  have hk7 := below_draws hk6 hq
  clear hq hrow6 hk6 HK4 hv1 hf1 hv2 hso4
  go_wp2_with fail
  refine (toBytes_bytes _ _ _ _ _ (cell_new _ _ _ _ rfl)).mono ?_
  rintro e w8 ⟨rfl, rfl⟩
  go_wp2_with fail
  go_ret
  have k := hbel.trans (hk7.mono hbel.size)
  exact ⟨rfl, k.alloc k.size _⟩

set_option maxHeartbeats 800000 in
/-- the string empty, the slice not -/
theorem walk_slice (s : ByteArray) (a : Option Addr) (len cap : Nat) (x : Int) (w : World) (h : s.size + len ≤ 1048576) (hs0 : s.size = 0) (hl0 : 0 < len)
    (hcl : Hid (Calls Efyg.prog 11 #[.slice a len cap] w fun e w' => e = .returned (.slice (some ⟨w.heap.size, 0, none⟩) len len) ∧ Below w.heap.size w w' ∧ w.heap.size < w'.heap.size ∧ Hid (w'.cell? ⟨w.heap.size, 0, none⟩ = some (.int .u8 x) ∧ w'.frozen? ⟨w.heap.size, 0, none⟩ = false))) :
    Calls Efyg.prog 6 #[.string s, .slice a len cap] w fun e w' => e = .returned (.bool true) ∧ Below w.heap.size w w' := by
  have h1 : ¬ (1048576 : Int) < (len : Int) := by omega
  have h2 : ¬ (1048576 : Int) < (s.size : Int) := by omega
  have h3 : ¬ (1048576 : Int) < (len : Int) + (s.size : Int) := by omega
  have h4 : ¬ (0 : Int) < (s.size : Int) := by omega
  have h5 : (0 : Int) < (len : Int) := by omega
  have HS0 : Hid (s.size = 0) := hs0
  clear hs0
  go_enter Efyg.func6, Efyg.ntmps6
  go_wp2_with fail
  refine (zz_yes _ _ _ _ _ h).mono ?_
  rintro e w1 ⟨rfl, rfl⟩
  go_wp2_with fail
  refine hcl.out.mono ?_
  rintro e w1 ⟨rfl, hbel, hlt, HX⟩
  clear hcl
  go_wp2_with fail
  refine (toBytes_string' _ s _ (cell_new2 _ _ _ _ _ rfl)).mono ?_
  rintro e w3 ⟨cap3, rfl, hbel3, HZ3, HC3⟩
  have hso3 : w3.cell? ⟨w1.heap.size, 0, none⟩ = some (.string s) := (hbel3.cell (p := ⟨w1.heap.size, 0, none⟩) (by simp)).trans (cell_new2 _ _ _ _ _ rfl)
  go_wp2_with fail
  refine (toBytes_string' _ s _ hso3).mono ?_
  rintro e w4 ⟨cap4, rfl, hbel4, HZ4, HC4⟩
  have hk7 := two_below _ hbel3 hbel4
  clear hbel3 HZ3 HC3 hbel4 HZ4 HC4 hso3
  obtain ⟨hx1, hx2, hx3, hx4⟩ := tail_facts hlt HX hk7
  go_wp2_with fail
  refine (toBytes_bytes _ _ _ _ _ (cell_new _ _ _ _ rfl)).mono ?_
  rintro e w8 ⟨rfl, rfl⟩
  go_wp2_with fail
  go_ret
  have k := hbel.trans (hk7.mono (Nat.le_of_lt hlt))
  exact ⟨rfl, (k.alloc k.size _).setCell (Nat.le_refl _) _⟩

set_option maxHeartbeats 800000 in
/-- both empty -/
theorem walk_neither (s : ByteArray) (a a' : Option Addr) (cap cap' : Nat) (w : World) (h : s.size ≤ 1048576) (hs0 : s.size = 0)
    (hcl : Hid (Calls Efyg.prog 11 #[.slice a 0 cap] w fun e w' => e = .returned (.slice a' 0 cap') ∧ Below w.heap.size w w')) :
    Calls Efyg.prog 6 #[.string s, .slice a 0 cap] w fun e w' => e = .returned (.bool true) ∧ Below w.heap.size w w' := by
  have h2 : ¬ (1048576 : Int) < (s.size : Int) := by omega
  have h4 : ¬ (0 : Int) < (s.size : Int) := by omega
  have HS0 : Hid (s.size = 0) := hs0
  clear hs0
  go_enter Efyg.func6, Efyg.ntmps6
  go_wp2_with fail
  refine (zz_yes _ _ _ _ _ (by omega)).mono ?_
  rintro e w1 ⟨rfl, rfl⟩
  go_wp2_with fail
  refine hcl.out.mono ?_
  rintro e w1 ⟨rfl, hbel⟩
  clear hcl
  go_wp2_with fail
  refine (toBytes_string' _ s _ (cell_new2 _ _ _ _ _ rfl)).mono ?_
  rintro e w3 ⟨cap3, rfl, hbel3, HZ3, HC3⟩
  have hso3 : w3.cell? ⟨w1.heap.size, 0, none⟩ = some (.string s) := (hbel3.cell (p := ⟨w1.heap.size, 0, none⟩) (by simp)).trans (cell_new2 _ _ _ _ _ rfl)
  go_wp2_with fail
  refine (toBytes_string' _ s _ hso3).mono ?_
  rintro e w4 ⟨cap4, rfl, hbel4, HZ4, HC4⟩
  have hk7 := two_below _ hbel3 hbel4
  clear hbel3 HZ3 HC3 hbel4 HZ4 HC4 hso3
  go_wp2_with fail
  refine (toBytes_bytes _ _ _ _ _ (cell_new _ _ _ _ rfl)).mono ?_
  rintro e w8 ⟨rfl, rfl⟩
  go_wp2_with fail
  go_ret
  have k := hbel.trans (hk7.mono hbel.size)
  exact ⟨rfl, k.alloc k.size _⟩

/-- WHAT THE WALK IS TOLD OF A SLICE OF INTEGERS THAT CAME IN: it is nil; or it leads to a row of 'cap' cells, the numbers 'zs'. -/
def IsRow (k : IntKind) (w : World) (a : Option Addr) (len cap : Nat) (zs : List Int) : Prop :=
  (a = none ∧ len = 0 ∧ cap = 0 ∧ zs = []) ∨
  ∃ x, a = some x ∧ len ≤ cap ∧ cap ≤ maxLen ∧ zs.length = cap ∧ (∀ i, i < zs.length → w.cell? (x.add i) = some (.int k (zs.getD i 0))) ∧ ∀ n ∈ zs, (Lit.int k n).wf = true

/-- The slice is empty: nil or not. -/
theorem walk_l0 (s : ByteArray) (a a' : Option Addr) (cap cap' : Nat) (w : World) (h : s.size ≤ 1048576)
    (hcl : Hid (Calls Efyg.prog 11 #[.slice a 0 cap] w fun e w' => e = .returned (.slice a' 0 cap') ∧ Below w.heap.size w w')) :
    Calls Efyg.prog 6 #[.string s, .slice a 0 cap] w fun e w' => e = .returned (.bool true) ∧ Below w.heap.size w w' := by
  by_cases h0 : s.size = 0
  · exact walk_neither s a a' cap cap' w h h0 hcl
  · exact walk_string s a a' cap cap' w h (by omega) hcl

theorem walk (s : ByteArray) (a : Option Addr) (len cap : Nat) (zs : List Int) (w : World) (hs : s.size ≤ maxLen) (hr : IsRow .u8 w a len cap zs) :
    Calls Efyg.prog 6 #[.string s, .slice a len cap] w fun e w' => e = .returned (.bool true) ∧ Below w.heap.size w w' := by
  have hl : len ≤ maxLen := by
    rcases hr with ⟨_, rfl, _, _⟩ | ⟨x, _, h1, h2, _⟩
    · exact Nat.zero_le _
    · omega
  by_cases h : s.size + len ≤ 1048576
  · rcases hr with ⟨rfl, rfl, rfl, rfl⟩ | ⟨x, rfl, hlc, hm, hz, hcell, hwz⟩
    · refine walk_l0 s none none 0 0 w (by omega) ?_
      refine (clone_nil w).mono ?_
      rintro e w' ⟨rfl, rfl⟩
      exact ⟨rfl, Below.refl _ _⟩
    · have hcl := clone_any x len cap zs w (by omega) (fun i hi => hcell i (by omega))
      by_cases hl0 : len = 0
      · subst hl0
        refine walk_l0 s (some x) (some ⟨w.heap.size, 0, none⟩) cap 0 w (by omega) ?_
        refine hcl.mono ?_
        rintro e w' ⟨rfl, hb, _, _⟩
        exact ⟨rfl, hb⟩
      · have hcl' : Hid (Calls Efyg.prog 11 #[.slice (some x) len cap] w fun e w' => e = .returned (.slice (some ⟨w.heap.size, 0, none⟩) len len) ∧ Below w.heap.size w w' ∧ w.heap.size < w'.heap.size ∧ Hid (w'.cell? ⟨w.heap.size, 0, none⟩ = some (.int .u8 (zs.getD 0 0)) ∧ w'.frozen? ⟨w.heap.size, 0, none⟩ = false)) := by
          refine hcl.mono ?_
          rintro e w' ⟨rfl, hb, hz', hrow⟩
          have := hz'.out
          exact ⟨rfl, hb, by omega, hrow.cell (by omega), hrow.frozen 0⟩
        by_cases h0 : s.size = 0
        · exact walk_slice s (some x) len cap _ w h h0 (by omega) hcl'
        · exact walk_both s (some x) len cap _ w h (by omega) (by omega) hcl'
  · exact walk_no s a len cap w hs hl (by omega)
#print axioms walk

end Go.Proofs.Yoefyw.Copy
