import Derived.Test.YbulkccxsBuf
namespace Go.Proofs.Ybulkccxs
open Go.RowKit

def ints (xs : List Int) : List Value := xs.map (Value.int .i64)
theorem ints_length (xs : List Int) : (ints xs).length = xs.length := by simp [ints]
theorem ints_at (xs : List Int) {j : Nat} (h : j < xs.length) : (ints xs)[j]? = some (.int .i64 (xs.getD j 0)) := by
  simp [ints, h]
theorem ints_append (xs ys : List Int) : ints (xs ++ ys) = ints xs ++ ints ys := by simp [ints]
theorem ints_one (xs : List Int) : ∀ u ∈ ints xs, u.oneCell' = true := by
  intro u hu
  simp only [ints, List.mem_map] at hu
  obtain ⟨x, _, rfl⟩ := hu
  rfl

set_option maxHeartbeats 400000 in
theorem equal_some (g g2 c c2 n : Nat) (f : Nat → Int) (w : World) (hn : n ≤ 100000)
    (h1 : ∀ j, j < n → w.cell? ⟨g, j, none⟩ = some (.int .i64 (f j))) (h2 : ∀ j, j < n → w.cell? ⟨g2, j, none⟩ = some (.int .i64 (f j))) :
    Calls Yba.prog 7 #[.slice (some ⟨g, 0, none⟩) n c, .slice (some ⟨g2, 0, none⟩) n c2] w fun e w' => e = .returned (.bool true) ∧ ∃ q, w' = w.drewN q := by
  have H1 : Hid (∀ j, j < n → w.cell? ⟨g, j, none⟩ = some (.int .i64 (f j))) := h1
  have H2 : Hid (∀ j, j < n → w.cell? ⟨g2, j, none⟩ = some (.int .i64 (f j))) := h2
  clear h1 h2
  go_enter Yba.func7, Yba.ntmps7
  go_wp2
  go_loopw [13] (fun i wr => ∃ k : Nat, k ≤ n ∧ i = .int .i64 k ∧ ∃ q, wr = w.drewN q) (fun i _ => n - (intOf i).toNat)
  case atStart => exact ⟨0, Nat.zero_le _, rfl, 0, rfl⟩
  case round =>
    obtain ⟨k, hk, rfl, q, rfl⟩ := hrel
    have hk0 : (0 : Int) ≤ (k : Int) := by omega
    by_cases hlt : k < n
    · have hk1 : (k : Int) < (n : Int) := by omega
      have c1 := H1.out k hlt
      have c2 := H2.out k hlt
      go_wp2
      go_quiet (fail)
      go_wp2
      go_roundw
      case rel => exact ⟨k + 1, by omega, by go_num, _, rfl⟩
      case measure => simp [intOf]; omega
    · go_wp2
      go_ret
      exact ⟨rfl, _, rfl⟩

set_option maxHeartbeats 400000 in
theorem equal_zero (a a2 : Option Addr) (c c2 : Nat) (w : World) :
    Calls Yba.prog 7 #[.slice a 0 c, .slice a2 0 c2] w fun e w' => e = .returned (.bool true) ∧ ∃ q, w' = w.drewN q := by
  go_enter Yba.func7, Yba.ntmps7
  go_wp2
  go_loop [13] (fun i => i = .int .i64 0) (fun _ => 0)
  case atStart => rfl
  case round =>
    subst hrel
    go_wp2
    go_ret
    exact ⟨rfl, 0, rfl⟩

theorem sl_zero (ao : Option Nat) (c : Nat) : ∃ a c', sl ao 0 c = .slice a 0 c' := by
  cases ao with
  | none => exact ⟨_, _, rfl⟩
  | some g => exact ⟨_, _, rfl⟩

theorem equal_any (base : Nat) (ao ao2 : Option Nat) (c c2 : Nat) (xs : List Int) (w : World) (hn : xs.length ≤ 100000) (h1 : Sto w base ao c (ints xs)) (h2 : Sto w base ao2 c2 (ints xs)) :
    Calls Yba.prog 7 #[sl ao xs.length c, sl ao2 xs.length c2] w fun e w' => e = .returned (.bool true) ∧ ∃ q, w' = w.drewN q := by
  by_cases h0 : xs.length = 0
  · rw [h0]
    obtain ⟨a, d, e1⟩ := sl_zero ao c
    obtain ⟨a2, d2, e2⟩ := sl_zero ao2 c2
    rw [e1, e2]
    exact equal_zero a a2 d d2 w
  · have hne : ints xs ≠ [] := fun e => h0 (by rw [← ints_length, e]; rfl)
    cases ao with
    | none =>
      rcases h1 with ⟨_, _, h⟩ | ⟨g, cur, h, _⟩
      · exact absurd h hne
      · cases h
    | some g =>
      cases ao2 with
      | none =>
        rcases h2 with ⟨_, _, h⟩ | ⟨g, cur, h, _⟩
        · exact absurd h hne
        · cases h
      | some g2 =>
        exact equal_some g g2 c c2 xs.length (fun j => xs.getD j 0) w hn (fun j hj => h1.cell j _ (ints_at xs hj)) (fun j hj => h2.cell j _ (ints_at xs hj))

end Go.Proofs.Ybulkccxs
