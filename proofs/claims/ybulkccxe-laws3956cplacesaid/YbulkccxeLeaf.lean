import Derived.Test.YbulkccxeRows
import Derived.WalkKit
import Derived.WalkSpells
import Derived.WalkLawsBesides
import Derived.Deep.QuietTactic
import Derived.BigQuiet
import Derived.Deep.OwnRows
namespace Go.Proofs.Ybulkccxe
open Go.RowKit


/-- The keyword of a kind. -/
def kwS (k : Int) : ByteArray :=
  if k % 5 = 0 then ⟨#[112, 114, 101, 102, 105, 120]⟩ else if k % 5 = 1 then ⟨#[105, 109, 112, 111, 114, 116]⟩ else if k % 5 = 2 then ⟨#[108, 101, 97, 102]⟩ else if k % 5 = 3 then ⟨#[110, 97, 109, 101, 115, 112, 97, 99, 101]⟩ else ⟨#[114, 101, 118, 105, 115, 105, 111, 110]⟩

set_option maxHeartbeats 400000 in
theorem kw_any (k : Int) (w : World) (h0 : 0 ≤ k) (h1 : k ≤ 255) :
    Calls Yba.prog 4 #[.int .u8 k] w fun e w' => e = .returned (.string (kwS k)) ∧ w' = w := by
  unfold kwS
  by_cases c0 : k % 5 = 0
  · rw [if_pos c0]
    go_enter Yba.func4, Yba.ntmps4
    go_wp2
    go_ret
    exact ⟨rfl, rfl⟩
  by_cases c1 : k % 5 = 1
  · rw [if_neg c0, if_pos c1]
    go_enter Yba.func4, Yba.ntmps4
    go_wp2
    go_ret
    exact ⟨rfl, rfl⟩
  by_cases c2 : k % 5 = 2
  · rw [if_neg c0, if_neg c1, if_pos c2]
    go_enter Yba.func4, Yba.ntmps4
    go_wp2
    go_ret
    exact ⟨rfl, rfl⟩
  by_cases c3 : k % 5 = 3
  · rw [if_neg c0, if_neg c1, if_neg c2, if_pos c3]
    go_enter Yba.func4, Yba.ntmps4
    go_wp2
    go_ret
    exact ⟨rfl, rfl⟩
  rw [if_neg c0, if_neg c1, if_neg c2, if_neg c3]
  go_enter Yba.func4, Yba.ntmps4
  go_wp2
  go_ret
  exact ⟨rfl, rfl⟩

def isPre (k : Int) : Bool := decide (k % 5 = 0)
def isImp (k : Int) : Bool := decide (k % 5 = 1)

theorem kw_pre (k : Int) : ((kwS k).toList == [112, 114, 101, 102, 105, 120]) = isPre k := by
  unfold kwS isPre
  by_cases c0 : k % 5 = 0
  · rw [if_pos c0]; simp only [c0, decide_true]; decide +kernel
  rw [if_neg c0]
  simp only [c0, decide_false]
  by_cases c1 : k % 5 = 1
  · rw [if_pos c1]; decide +kernel
  rw [if_neg c1]
  by_cases c2 : k % 5 = 2
  · rw [if_pos c2]; decide +kernel
  rw [if_neg c2]
  by_cases c3 : k % 5 = 3
  · rw [if_pos c3]; decide +kernel
  rw [if_neg c3]; decide +kernel
theorem kw_imp (k : Int) : ((kwS k).toList == [105, 109, 112, 111, 114, 116]) = isImp k := by
  unfold kwS isImp
  by_cases c0 : k % 5 = 0
  · rw [if_pos c0]; simp only [c0]; decide +kernel
  rw [if_neg c0]
  by_cases c1 : k % 5 = 1
  · rw [if_pos c1]; simp only [c1, decide_true]; decide +kernel
  rw [if_neg c1]
  simp only [c1, decide_false]
  by_cases c2 : k % 5 = 2
  · rw [if_pos c2]; decide +kernel
  rw [if_neg c2]
  by_cases c3 : k % 5 = 3
  · rw [if_pos c3]; decide +kernel
  rw [if_neg c3]; decide +kernel

set_option maxHeartbeats 400000 in
theorem pre_any (b : Nat) (k : Int) (w : World) (h : w.cell? ⟨b, 0, none⟩ = some (.string (kwS k))) :
    Calls Yba.prog 8 #[.pointer (some ⟨b, 0, none⟩)] w fun e w' => e = .returned (.bool (isPre k)) ∧ w' = w := by
  have hp := kw_pre k
  go_enter Yba.func8, Yba.ntmps8
  go_wp2
  go_ret
  exact ⟨rfl, rfl⟩

/-- The last import among the first j kinds, or -1. -/
def lastImp (ks : Nat → Int) : Nat → Int
  | 0 => -1
  | j + 1 => if isImp (ks j) = true then (j : Int) else lastImp ks j
/-- The first prefix among the first j kinds, or -1. -/
def firstPre (ks : Nat → Int) : Nat → Int
  | 0 => -1
  | j + 1 => if isPre (ks j) = true ∧ firstPre ks j < 0 then (j : Int) else firstPre ks j

theorem lastImp_bd (ks : Nat → Int) (j : Nat) : -1 ≤ lastImp ks j ∧ lastImp ks j < j := by
  induction j with
  | zero => simp [lastImp]
  | succ j ih => simp only [lastImp]; split <;> omega
theorem firstPre_bd (ks : Nat → Int) (j : Nat) : -1 ≤ firstPre ks j ∧ firstPre ks j < j := by
  induction j with
  | zero => simp [firstPre]
  | succ j ih => simp only [firstPre]; split <;> omega
theorem firstPre_keeps (ks : Nat → Int) (j d : Nat) (h : 0 ≤ firstPre ks j) : firstPre ks (j + d) = firstPre ks j := by
  induction d with
  | zero => rfl
  | succ d ih => rw [← Nat.add_assoc]; simp only [firstPre]; rw [if_neg (by omega), ih]
theorem firstPre_hit (ks : Nat → Int) (j n : Nat) (h : firstPre ks j = -1) (hj : j < n) (hp : isPre (ks j) = true) : firstPre ks n = j := by
  have h1 : firstPre ks (j + 1) = j := by simp only [firstPre]; rw [if_pos ⟨hp, by omega⟩]
  have h2 := firstPre_keeps ks (j + 1) (n - (j + 1)) (by omega)
  rw [show j + 1 + (n - (j + 1)) = n by omega] at h2
  rw [h2, h1]
theorem firstPre_miss (ks : Nat → Int) (j : Nat) (h : firstPre ks j = -1) (hp : isPre (ks j) = false) : firstPre ks (j + 1) = -1 := by
  simp only [firstPre]; rw [if_neg (by simp [hp]), h]
theorem lastImp_hit (ks : Nat → Int) (j : Nat) (hp : isImp (ks j) = true) : lastImp ks (j + 1) = j := by
  simp only [lastImp]; rw [if_pos hp]
theorem lastImp_miss (ks : Nat → Int) (j : Nat) (hp : isImp (ks j) = false) : lastImp ks (j + 1) = lastImp ks j := by
  simp only [lastImp]; rw [if_neg (by simp [hp])]
theorem imp_not_pre (k : Int) (h : isImp k = true) : isPre k = false := by
  unfold isImp at h
  unfold isPre
  simp at h ⊢
  omega
theorem firstPre_same (ks : Nat → Int) (j : Nat) (h : isPre (ks j) = false ∨ 0 ≤ firstPre ks j) : firstPre ks (j + 1) = firstPre ks j := by
  simp only [firstPre]
  rw [if_neg]
  rintro ⟨h1, h2⟩
  rcases h with h | h
  · rw [h] at h1; cases h1
  · omega
theorem firstPre_now (ks : Nat → Int) (j : Nat) (h : isPre (ks j) = true) (h2 : firstPre ks j < 0) : firstPre ks (j + 1) = j := by
  simp only [firstPre]
  rw [if_pos ⟨h, h2⟩]
/-- Where the imports go, by the first j kinds of n. -/
def atTo (ks : Nat → Int) (n j : Nat) : Int := if 0 ≤ lastImp ks j then lastImp ks j + 1 else firstPre ks n + 1
theorem atTo_bd (ks : Nat → Int) (n j : Nat) (h : j ≤ n) : 0 ≤ atTo ks n j ∧ atTo ks n j ≤ n := by
  have h1 := lastImp_bd ks j
  have h2 := firstPre_bd ks n
  unfold atTo
  split <;> omega
theorem atTo_hit (ks : Nat → Int) (n j : Nat) (hp : isImp (ks j) = true) : atTo ks n (j + 1) = (j : Int) + 1 := by
  unfold atTo; rw [lastImp_hit ks j hp, if_pos (by omega)]
theorem atTo_miss (ks : Nat → Int) (n j : Nat) (hp : isImp (ks j) = false) : atTo ks n (j + 1) = atTo ks n j := by
  unfold atTo; rw [lastImp_miss ks j hp]
theorem atTo_yes (ks : Nat → Int) (n j : Nat) (h : 0 ≤ lastImp ks j) : lastImp ks j + 1 = atTo ks n j := by
  unfold atTo; rw [if_pos h]
theorem atTo_no (ks : Nat → Int) (n j : Nat) (h : ¬ 0 ≤ lastImp ks j) : firstPre ks n + 1 = atTo ks n j := by
  unfold atTo; rw [if_neg h]
theorem atTo_zero (ks : Nat → Int) (n : Nat) : atTo ks n 0 = firstPre ks n + 1 := by
  unfold atTo; simp [lastImp]

end Go.Proofs.Ybulkccxe
