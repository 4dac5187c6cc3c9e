import Derived.Test.YoefywParts
import Derived.Lib.SliceRun
import Derived.Deep.OwnRows
namespace Go.Proofs.Yoefyw.Parts
open Go.RowKit

/-- cloneB2 of nil. -/
theorem clone_nil (w : World) :
    Calls Efyg.prog 11 #[.slice none 0 0] w fun e w' => e = .returned (.slice none 0 0) ∧ w = w' := by
  have hq := fun (w : World) => Lib.run_eql_slice_nil (P := Efyg.prog) w 31 5 none 0 0 0 0 Efyg.underlying31
  go_enter Efyg.func11, Efyg.ntmps11
  go_wp2
  go_ret
  exact ⟨rfl, rfl⟩

theorem info5 : (Efyg.prog.info? 5).map (fun i => (i.zero, i.size, i.bytes)) = some (some (.int .u8 0), 1, 1) := by kernel_rfl

/-- What the copy holds behind k rounds. -/
def part (xs : List Int) (k j : Nat) : Value := .int .u8 (if j < k then xs.getD j 0 else 0)

theorem part_zero (xs : List Int) (j : Nat) : part xs 0 j = .int .u8 0 := by simp [part]

theorem part_step (xs : List Int) (k j : Nat) : (if j = k then .int .u8 (xs.getD k 0) else part xs k j) = part xs (k + 1) j := by
  unfold part
  by_cases e : j = k
  · subst e; simp
  · rw [if_neg e]
    by_cases h : j < k
    · rw [if_pos h, if_pos (by omega)]
    · rw [if_neg h, if_neg (by omega)]

theorem below_set {B : Nat} {a w : World} (h : Below B a w) (b i : Nat) (hb : B ≤ b) (v : Value) : Below B a (w.setCell ⟨b, i, none⟩ v) := h.setCell (p := ⟨b, i, none⟩) hb v

set_option maxHeartbeats 400000 in
/-- cloneB2 of a slice that is not nil: a new row of the same bytes. -/
theorem clone_some (b o : Nat) (n c : Nat) (xs : List Int) (w : World) (hn : n ≤ 1048576) (hsrc : ∀ i, i < n → w.cell? ⟨b, o + i, none⟩ = some (.int .u8 (xs.getD i 0))) (hb : 0 < n → b < w.heap.size) :
    Calls Efyg.prog 11 #[.slice (some ⟨b, o, none⟩) n c] w fun e w' => e = .returned (.slice (some ⟨w.heap.size, 0, none⟩) n n) ∧ Below w.heap.size w w' ∧ Hid (w'.heap.size = w.heap.size + 1) ∧
      w'.rowIs w.heap.size 5 n (fun j => .int .u8 (xs.getD j 0)) := by
  have hq := fun (w : World) => Lib.run_eql_slice_nil (P := Efyg.prog) w 31 5 (some ⟨b, o, none⟩) n c 0 0 Efyg.underlying31
  have hmk := fun (w : World) => run_make_row' (P := Efyg.prog) 31 5 (.int .u8 0) 1 Efyg.underlying31 info5 rfl .i64 .i64 n (by omega) (by omega) w
  have HS : Hid (∀ i, i < n → w.cell? ⟨b, o + i, none⟩ = some (.int .u8 (xs.getD i 0))) := hsrc
  clear hsrc
  go_enter Efyg.func11, Efyg.ntmps11
  go_wp2
  clear hmk hq
  go_loopw [4] (fun vi wr => ∃ k : Nat, k ≤ n ∧ vi = .int .i64 k ∧ Hid (wr.rowIs w.heap.size 5 n (part xs k)) ∧ Hid (Below w.heap.size w wr) ∧ Hid (wr.heap.size = w.heap.size + 1)) (fun vi _ => n - (intOf vi).toNat)
  case atStart => exact ⟨0, Nat.zero_le _, rfl, (World.rowIs_made w _ _ _).congr (fun j _ => (part_zero xs j).symm), (Below.refl _ _).alloc (Nat.le_refl _) _, by show _ = _; simp⟩
  case round =>
    obtain ⟨k, hk, rfl, hrw, hbl, HZ⟩ := hrel
    by_cases hlt : k < n
    · obtain ⟨x, hxk⟩ : ∃ x, x = xs.getD k 0 := ⟨_, rfl⟩
      have hcx : wr.cell? ⟨b, o + k, none⟩ = some (.int .u8 x) := by rw [hxk]; exact (hbl.out.cell (p := ⟨b, o + k, none⟩) (hb (by omega))).trans (HS.out k hlt)
      have HX : Hid (x = xs.getD k 0) := hxk
      clear hxk
      have hf1 : wr.frozen? ⟨w.heap.size, k, none⟩ = false := hrw.out.frozen _
      have hc1 : wr.cell? ⟨w.heap.size, k, none⟩ = some (part xs k k) := hrw.out.cell hlt
      have hi : (k : Int) < (n : Int) := by omega
      go_wp2
      go_roundw
      case rel =>
        refine ⟨k + 1, by omega, by go_num, (hrw.out.set _ _).congr (fun j _ => ?_), below_set hbl.out _ _ (Nat.le_refl _) _, ?_⟩
        · rw [HX.out]; exact part_step xs k j
        · show _ = _
          have := HZ.out
          simp [World.setCell]; exact this
      case measure => simp [intOf]; omega
    · have hk2 : k = n := by omega
      subst hk2
      go_wp2
      go_ret
      exact ⟨rfl, hbl.out, HZ, hrw.out.congr (fun j hj => by simp [part, hj])⟩

set_option maxHeartbeats 400000 in
/-- cloneB2 of an empty slice that is not nil, wherever it lies. -/
theorem clone_empty (x : Addr) (c : Nat) (xs : List Int) (w : World) :
    Calls Efyg.prog 11 #[.slice (some x) 0 c] w fun e w' => e = .returned (.slice (some ⟨w.heap.size, 0, none⟩) 0 0) ∧ Below w.heap.size w w' ∧ Hid (w'.heap.size = w.heap.size + 1) ∧
      w'.rowIs w.heap.size 5 0 (fun j => .int .u8 (xs.getD j 0)) := by
  have hq := fun (w : World) => Lib.run_eql_slice_nil (P := Efyg.prog) w 31 5 (some x) 0 c 0 0 Efyg.underlying31
  have hmk : ∀ w : World, (Instr.makeSlice 31 (.int .i64 0) (.int .i64 0)).run Efyg.prog w = .ok (.slice (some ⟨w.heap.size, 0, none⟩) 0 0) (w.alloc (.cells (madeCells #[.int .u8 0] 0) 5)) := fun w =>
    run_make_row' (P := Efyg.prog) 31 5 (.int .u8 0) 1 Efyg.underlying31 info5 rfl .i64 .i64 0 (by omega) (by omega) w
  go_enter Efyg.func11, Efyg.ntmps11
  go_wp2
  clear hmk hq
  go_loop [4] (fun vi => vi = .int .i64 0) (fun _ => 0)
  case atStart => rfl
  case round =>
    subst hrel
    go_wp2
    go_ret
    refine ⟨rfl, (Below.refl _ _).alloc (Nat.le_refl _) _, ?_, (World.rowIs_made w _ 0 _).congr (fun j hj => absurd hj (Nat.not_lt_zero _))⟩
    show _ = _
    simp

/-- cloneB2 of a slice that is not nil. -/
theorem clone_any (x : Addr) (n c : Nat) (xs : List Int) (w : World) (hn : n ≤ 1048576) (hsrc : ∀ i, i < n → w.cell? (x.add i) = some (.int .u8 (xs.getD i 0))) :
    Calls Efyg.prog 11 #[.slice (some x) n c] w fun e w' => e = .returned (.slice (some ⟨w.heap.size, 0, none⟩) n n) ∧ Below w.heap.size w w' ∧ Hid (w'.heap.size = w.heap.size + 1) ∧
      w'.rowIs w.heap.size 5 n (fun j => .int .u8 (xs.getD j 0)) := by
  by_cases h0 : n = 0
  · subst h0; exact clone_empty x c xs w
  · obtain ⟨b, o, sp⟩ := x
    have hc := hsrc 0 (by omega)
    have hsp : sp = none := by simpa [Addr.add] using World.cell?_spot hc
    subst hsp
    have hlt : b < w.heap.size := by
      rcases Nat.lt_or_ge b w.heap.size with h' | h'
      · exact h'
      · simp [World.cell?, Addr.add, Array.getElem?_eq_none h'] at hc
    exact clone_some b o n c xs w hn (fun i hi => by have h := hsrc i hi; rwa [Addr.add_lit] at h) (fun _ => hlt)

end Go.Proofs.Yoefyw.Parts
