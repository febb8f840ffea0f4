import Derived.Test.YbulkccxsSto
namespace Go.Proofs.Ybulkccxs
open Go.RowKit

/-- Nothing but block B has turned. -/
structure Only (B : Nat) (w w' : World) : Prop where
  os : w'.os = w.os
  tape : w'.tape = w.tape
  output : w'.output = w.output
  size : w'.heap.size = w.heap.size
  block : ∀ k, k ≠ B → w'.heap[k]? = w.heap[k]?
theorem Only.refl (B : Nat) (w : World) : Only B w w := ⟨rfl, rfl, rfl, rfl, fun _ _ => rfl⟩
theorem Only.drewN {B : Nat} {w w' : World} (h : Only B w w') (n : Nat) : Only B w (w'.drewN n) := ⟨h.os, h.tape, h.output, h.size, h.block⟩
theorem Only.set {B o : Nat} {w w' : World} (h : Only B w w') (v : Value) : Only B w (w'.setCell ⟨B, o, none⟩ v) :=
  ⟨h.os, h.tape, h.output, by rw [← h.size]; simp [World.setCell], fun k hk => (Below.heap_setCell _ _ _ _ hk).trans (h.block k hk)⟩

/-- The buffer at block B: its storage, c cells, all of them in the slice; its length n. -/
structure Buf (B : Nat) (ao : Option Nat) (c n : Nat) (w : World) : Prop where
  c0 : w.cell? ⟨B, 0, none⟩ = some (sl ao c c)
  c1 : w.cell? ⟨B, 1, none⟩ = some (.int .i64 n)
  f0 : w.frozen? ⟨B, 0, none⟩ = false
  f1 : w.frozen? ⟨B, 1, none⟩ = false

set_option maxHeartbeats 400000 in
theorem reset_any (B : Nat) (ao : Option Nat) (c n : Nat) (w : World) (h : Buf B ao c n w) :
    Calls Yba.prog 4 #[.pointer (some ⟨B, 0, none⟩)] w fun e w' => e = .returned (.tuple #[]) ∧ Buf B ao c 0 w' ∧ Only B w w' := by
  obtain ⟨c0, c1, f0, f1⟩ := h
  go_enter Yba.func4, Yba.ntmps4
  go_wp2
  go_end0
  refine ⟨rfl, ⟨?_, ?_, ?_, ?_⟩, (Only.refl _ _).set _⟩
  · rw [World.cell?_setCell_other _ _ _ _ (by simp)]; exact c0
  · exact World.cell?_setCell_same _ _ _ c1
  · rw [World.frozen?_setCell]; exact f0
  · rw [World.frozen?_setCell]; exact f1

set_option maxHeartbeats 400000 in
theorem items_any (B : Nat) (ao : Option Nat) (c n : Nat) (w : World) (h : Buf B ao c n w) (hn : n ≤ c) (hc : c ≤ maxLen) (hnil : ao = none → c = 0) :
    Calls Yba.prog 6 #[.pointer (some ⟨B, 0, none⟩)] w fun e w' => e = .returned (sl ao n c) ∧ ∃ q, w' = w.drewN q := by
  obtain ⟨c0, c1, f0, f1⟩ := h
  unfold maxLen at hc
  cases ao with
  | none =>
    obtain rfl := hnil rfl
    obtain rfl : n = 0 := by omega
    simp only [sl] at c0 ⊢
    go_enter Yba.func6, Yba.ntmps6
    go_wp2
    go_quiet (fail)
    go_wp2
    go_ret
    exact ⟨rfl, _, rfl⟩
  | some g =>
    simp only [sl] at c0 ⊢
    have h0 : (0 : Int) ≤ (n : Int) := by omega
    have h1 : (n : Int) ≤ (c : Int) := by omega
    go_enter Yba.func6, Yba.ntmps6
    go_wp2
    go_quiet (fail)
    go_wp2
    go_ret
    exact ⟨rfl, _, rfl⟩

set_option maxHeartbeats 400000 in
theorem set_any (B : Nat) (ao ao' : Option Nat) (c n c' n' : Nat) (w : World) (h : Buf B ao c n w) (hc : c' ≤ maxLen) (hc0 : c ≤ maxLen) (hsome : ∃ g, ao' = some g) (hor : (ao' = ao ∧ c' = c) ∨ c < c') (hnil : ao = none → c = 0) :
    Calls Yba.prog 5 #[.pointer (some ⟨B, 0, none⟩), sl ao' n' c'] w fun e w' => e = .returned (.tuple #[]) ∧ Buf B ao' c' n' w' ∧ Only B w w' := by
  obtain ⟨c0, c1, f0, f1⟩ := h
  unfold maxLen at hc hc0
  obtain ⟨g, rfl⟩ := hsome
  rcases hor with ⟨rfl, rfl⟩ | hlt
  · simp only [sl] at c0 ⊢
    go_enter Yba.func5, Yba.ntmps5
    go_wp2
    go_end0
    refine ⟨rfl, ⟨?_, ?_, ?_, ?_⟩, (Only.refl _ _).set _⟩
    · rw [World.cell?_setCell_other _ _ _ _ (by simp)]; exact c0
    · exact World.cell?_setCell_same _ _ _ c1
    · rw [World.frozen?_setCell]; exact f0
    · rw [World.frozen?_setCell]; exact f1
  · have hne : ((c' : Int) != (c : Int)) = true := by rw [bne_iff_ne]; omega
    have h0 : (0 : Int) ≤ (c' : Int) := by omega
    cases ao with
    | none =>
      obtain rfl := hnil rfl
      simp only [sl] at c0 ⊢
      go_enter Yba.func5, Yba.ntmps5
      go_wp2
      go_end0
      refine ⟨rfl, ⟨?_, ?_, ?_, ?_⟩, ((Only.refl _ _).set _).set _⟩
      · rw [World.cell?_setCell_other _ _ _ _ (by simp)]; exact World.cell?_setCell_same _ _ _ c0
      · exact World.cell?_setCell_same _ _ _ (by rw [World.cell?_setCell_other _ _ _ _ (by simp)]; exact c1)
      · rw [World.frozen?_setCell, World.frozen?_setCell]; exact f0
      · rw [World.frozen?_setCell, World.frozen?_setCell]; exact f1
    | some g0 =>
      simp only [sl] at c0 ⊢
      go_enter Yba.func5, Yba.ntmps5
      go_wp2
      go_end0
      refine ⟨rfl, ⟨?_, ?_, ?_, ?_⟩, ((Only.refl _ _).set _).set _⟩
      · rw [World.cell?_setCell_other _ _ _ _ (by simp)]; exact World.cell?_setCell_same _ _ _ c0
      · exact World.cell?_setCell_same _ _ _ (by rw [World.cell?_setCell_other _ _ _ _ (by simp)]; exact c1)
      · rw [World.frozen?_setCell, World.frozen?_setCell]; exact f0
      · rw [World.frozen?_setCell, World.frozen?_setCell]; exact f1

end Go.Proofs.Ybulkccxs
