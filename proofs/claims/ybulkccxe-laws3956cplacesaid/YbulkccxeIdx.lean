import Derived.Test.YbulkccxeLeaf
namespace Go.Proofs.Ybulkccxe
open Go.RowKit

/-- Block d is a row of n pointers to statements: the i-th to block 'p i'. -/
def PRow (d n : Nat) (p : Nat → Nat) (w : World) : Prop := ∀ i, i < n → w.cell? ⟨d, i, none⟩ = some (.pointer (some ⟨p i, 0, none⟩))
/-- The statements' keywords are those of the kinds. -/
def Kws (n : Nat) (p : Nat → Nat) (ks : Nat → Int) (w : World) : Prop := ∀ i, i < n → w.cell? ⟨p i, 0, none⟩ = some (.string (kwS (ks i)))

set_option maxHeartbeats 400000 in
theorem idx_any (d n c : Nat) (p : Nat → Nat) (ks : Nat → Int) (w : World) (hn : n ≤ 1024) (hp : PRow d n p w) (hk : Kws n p ks w) :
    Calls Yba.prog 7 #[.slice (some ⟨d, 0, none⟩) n c, .func (.func 8) #[] #[]] w fun e w' => e = .returned (.int .i64 (firstPre ks n)) ∧ w' = w := by
  have HP : Hid (PRow d n p w) := hp
  have HK : Hid (Kws n p ks w) := hk
  clear hp hk
  go_enter Yba.func7, Yba.ntmps7
  go_wp2
  go_loop [8] (fun i => ∃ k : Nat, k ≤ n ∧ i = .int .i64 k ∧ Hid (firstPre ks k = -1)) (fun i => n - (intOf i).toNat)
  case atStart => exact ⟨0, Nat.zero_le _, rfl, rfl⟩
  case round =>
    obtain ⟨k, hk, rfl, HJ⟩ := hrel
    by_cases hlt : k < n
    · have hc := HP.out k hlt
      have hs := HK.out k hlt
      cases hb : isPre (ks k)
      · have HS : Hid (firstPre ks (k + 1) = -1) := firstPre_miss ks k HJ.out hb
        go_wp2_with (go_at_call 8; refine (pre_any _ (ks k) _ ?_).mono ?_; exact hs; rintro e w' ⟨rfl, rfl⟩)
        go_round
        case rel => exact ⟨k + 1, by omega, by go_num, HS⟩
        case measure => simp [intOf]; omega
      · have HS : Hid (firstPre ks n = k) := firstPre_hit ks k n HJ.out hlt hb
        go_wp2_with (go_at_call 8; refine (pre_any _ (ks k) _ ?_).mono ?_; exact hs; rintro e w' ⟨rfl, rfl⟩)
        go_ret
        rw [HS.out]
        exact ⟨rfl, rfl⟩
    · have HS : Hid (firstPre ks n = -1) := by have : k = n := by omega
                                               subst this; exact HJ.out
      go_wp2
      go_ret
      rw [HS.out]
      exact ⟨rfl, rfl⟩

end Go.Proofs.Ybulkccxe
