import Derived.Test.YoefywParts
import Derived.Deep.QuietTactic
import Derived.BigQuiet
import Derived.Deep.Draws
namespace Go.Proofs.Yoefyw.Parts
open Go.RowKit

set_option maxHeartbeats 400000 in
/-- sameAsStringB2 of a row that holds the string's bytes. -/
theorem same_yes (b c : Nat) (s : ByteArray) (w : World) (hs : s.size ≤ 1048576) (hc : ∀ j (hj : j < s.size), w.cell? ⟨b, j, none⟩ = some (.int .u8 (s[j].toNat : Int))) :
    Calls Efyg.prog 15 #[.slice (some ⟨b, 0, none⟩) s.size c, .string s] w fun e w' => e = .returned (.bool true) ∧ ∃ q, w' = w.drewN q := by
  have HC : Hid (∀ j (hj : j < s.size), w.cell? ⟨b, j, none⟩ = some (.int .u8 (s[j].toNat : Int))) := hc
  clear hc
  go_enter Efyg.func15, Efyg.ntmps15
  go_wp2
  go_loopw [5] (fun vi wr => ∃ k : Nat, k ≤ s.size ∧ vi = .int .i64 k ∧ Hid (∃ q, wr = w.drewN q)) (fun vi _ => s.size - (intOf vi).toNat)
  case atStart => exact ⟨0, Nat.zero_le _, rfl, 0, rfl⟩
  case round =>
    obtain ⟨k, hk, rfl, HQ⟩ := hrel
    obtain ⟨q, hq⟩ := HQ.out
    by_cases hlt : k < s.size
    · have hcx : wr.cell? ⟨b, k, none⟩ = some (.int .u8 (s[k].toNat : Int)) := by rw [hq]; exact HC.out k hlt
      have HQ' : Hid (wr = w.drewN q) := hq
      clear hq HQ
      have hi : (k : Int) < (s.size : Int) := by omega
      go_wp2
      go_quiet (fail)
      go_wp2
      refine ⟨⟨k + 1, by omega, by go_num, q + nq, ?_⟩, by simp [intOf]; omega⟩
      rw [HQ'.out]
      exact World.drewN_drewN _ _ _
    · clear HQ
      have hk2 : k = s.size := by omega
      go_wp2
      go_ret
      exact ⟨rfl, q, rfl⟩

end Go.Proofs.Yoefyw.Parts
