import Derived.Test.YbulkccumFmtRows
import Derived.WalkKit
import Derived.WalkSpells
import Derived.WalkLawsBesides
import Derived.Deep.QuietTactic
import Derived.BigQuiet
namespace Go.Proofs.YbulkccumFmt
open Go.RowKit

/-- White space, as the two functions of the program test it. -/
def spB (c : Int) : Bool := c == 32 || c == 9 || c == 10 || c == 13

set_option maxHeartbeats 400000 in
theorem isSpace_any (c : Int) (w : World) :
    Calls Ybaf.prog 9 #[.int .u8 c] w fun e w' => e = .returned (.bool (spB c)) ∧ w' = w := by
  unfold spB
  by_cases h1 : c = 32
  · subst h1
    go_enter Ybaf.func9, Ybaf.ntmps9
    go_wp2
    go_ret
    exact ⟨rfl, rfl⟩
  have g1 : (c == 32) = false := by simpa using h1
  by_cases h2 : c = 9
  · subst h2
    go_enter Ybaf.func9, Ybaf.ntmps9
    go_wp2
    go_ret
    exact ⟨rfl, rfl⟩
  have g2 : (c == 9) = false := by simpa using h2
  by_cases h3 : c = 10
  · subst h3
    go_enter Ybaf.func9, Ybaf.ntmps9
    go_wp2
    go_ret
    exact ⟨rfl, rfl⟩
  have g3 : (c == 10) = false := by simpa using h3
  by_cases h4 : c = 13
  · subst h4
    go_enter Ybaf.func9, Ybaf.ntmps9
    go_wp2
    go_ret
    exact ⟨rfl, rfl⟩
  have g4 : (c == 13) = false := by simpa using h4
  go_enter Ybaf.func9, Ybaf.ntmps9
  go_wp2
  go_ret
  exact ⟨by simp [g1, g2, g3, g4], rfl⟩

set_option maxHeartbeats 400000 in
theorem zzspace_any (c : Int) (w : World) :
    Calls Ybaf.prog 5 #[.int .u8 c] w fun e w' => e = .returned (.bool (spB c)) ∧ w' = w := by
  unfold spB
  by_cases h1 : c = 32
  · subst h1
    go_enter Ybaf.func5, Ybaf.ntmps5
    go_wp2
    go_ret
    exact ⟨rfl, rfl⟩
  have g1 : (c == 32) = false := by simpa using h1
  by_cases h2 : c = 9
  · subst h2
    go_enter Ybaf.func5, Ybaf.ntmps5
    go_wp2
    go_ret
    exact ⟨rfl, rfl⟩
  have g2 : (c == 9) = false := by simpa using h2
  by_cases h3 : c = 10
  · subst h3
    go_enter Ybaf.func5, Ybaf.ntmps5
    go_wp2
    go_ret
    exact ⟨rfl, rfl⟩
  have g3 : (c == 10) = false := by simpa using h3
  by_cases h4 : c = 13
  · subst h4
    go_enter Ybaf.func5, Ybaf.ntmps5
    go_wp2
    go_ret
    exact ⟨rfl, rfl⟩
  have g4 : (c == 13) = false := by simpa using h4
  go_enter Ybaf.func5, Ybaf.ntmps5
  go_wp2
  go_ret
  exact ⟨by simp [g1, g2, g3, g4], rfl⟩

end Go.Proofs.YbulkccumFmt
