import Derived.Test.YbulkccxeIns
import Derived.Deep.RegionWith
import Derived.Deep.DrawnRows
namespace Go.Proofs.Ybulkccxe
open Go.RowKit
attribute [local go_sem ↓] Go.wp_at_zero Go.wp_at_succ

/-- What insertImports leaves: the new row hangs in the one cell ⟨o, 3⟩; every other old cell is as it was. -/
def ImpPost (o N : Nat) (f : Nat → Nat) (w w' : World) : Prop :=
  ∃ h cap, w'.cell? ⟨o, 3, none⟩ = some (.slice (some ⟨h, 0, none⟩) N cap) ∧ PRow h N f w' ∧ (∀ a : Addr, a.block < w.heap.size → a ≠ ⟨o, 3, none⟩ → w'.cell? a = w.cell? a) ∧ Below o w w'

theorem impPost_of {o N : Nat} {f : Nat → Nat} {w w1 : World} {h cap : Nat} {v : Value} (hrow : PRow h N f w1) (hbel : Below w.heap.size w w1) (hho : h ≠ o) (ho : o < w.heap.size) (hc : w1.cell? ⟨o, 3, none⟩ = some v) :
    ImpPost o N f w (w1.setCell ⟨o, 3, none⟩ (.slice (some ⟨h, 0, none⟩) N cap)) := by
  refine ⟨h, cap, World.cell?_setCell_same _ _ _ hc, ?_, ?_, ?_⟩
  · intro i hi
    rw [World.cell?_setCell_other _ _ _ _ (by intro e; injection e with e; exact hho e.symm)]
    exact hrow i hi
  · intro a ha hne
    rw [World.cell?_setCell_other _ _ _ _ (Ne.symm hne)]
    exact hbel.cell ha
  · exact (hbel.mono (Nat.le_of_lt ho)).setCell (Nat.le_refl _) _

theorem below_of_drew {B : Nat} {w w1 : World} (h : Below B w.drew w1) : Below B w w1 := ⟨h.os, h.tape, h.output, h.size, h.block⟩

set_option maxHeartbeats 1000000 in
theorem imp_any (x o b n vb m : Nat) (p q : Nat → Nat) (ks : Nat → Int) (w : World) (hn : n ≤ 1024) (hm : m ≤ 1024)
    (hx : x < w.heap.size) (ho : o < w.heap.size) (hbo : b ≠ o)
    (h2 : w.cell? ⟨x, 2, none⟩ = some (.pointer (some ⟨o, 0, none⟩)))
    (h5 : w.cell? ⟨x, 5, none⟩ = some (.slice (some ⟨vb, 0, none⟩) m m))
    (h3 : w.cell? ⟨o, 3, none⟩ = some (.slice (some ⟨b, 0, none⟩) n n))
    (hf : w.frozen? ⟨o, 3, none⟩ = false)
    (hp : PRow b n p w) (hk : Kws n p ks w) (hq : PRow vb m q w) :
    Calls Yba.prog 6 #[.pointer (some ⟨x, 0, none⟩)] w fun e w' => e = .returned (.tuple #[]) ∧ ImpPost o (n + m) (insF p q (atTo ks n n).toNat m) w w' := by
  have HP : Hid (PRow b n p w) := hp
  have HK : Hid (Kws n p ks w) := hk
  have HQ : Hid (PRow vb m q w) := hq
  clear hp hk hq
  have hfb := firstPre_bd ks n
  go_enter Yba.func6, Yba.ntmps6
  go_wp2_with (go_at_call 7; refine (idx_any b n n p ks _ hn ?_ ?_).mono ?_; exact HP.out; exact HK.out; rintro e w' ⟨rfl, hw⟩; rw [hw]; clear hw w')
  go_loop [2, 22] (fun a i => ∃ k : Nat, k ≤ n ∧ i = .int .i64 k ∧ a = .int .i64 (atTo ks n k)) (fun _ i => n - (intOf i).toNat)
  case atStart => exact ⟨0, Nat.zero_le _, rfl, by rw [atTo_zero]⟩
  case round =>
    obtain ⟨k, hk, rfl, rfl⟩ := hrel
    by_cases hlt : k < n
    · have hc := HP.out k hlt
      have hs := HK.out k hlt
      have hi := kw_imp (ks k)
      cases hb : isImp (ks k)
      · have HS : Hid (atTo ks n (k + 1) = atTo ks n k) := atTo_miss ks n k hb
        rw [hb] at hi
        go_wp2
        go_round
        case rel => exact ⟨k + 1, by omega, by go_num, by rw [HS.out]⟩
        case measure => simp [intOf]; omega
      · have HS : Hid (atTo ks n (k + 1) = (k : Int) + 1) := atTo_hit ks n k hb
        rw [hb] at hi
        go_wp2
        go_round
        case rel => exact ⟨k + 1, by omega, by go_num, by rw [HS.out]⟩
        case measure => simp [intOf]; omega
    · obtain rfl : k = n := by omega
      have hab := atTo_bd ks k k (Nat.le_refl _)
      clear hfb
      obtain ⟨i, hi⟩ := Int.eq_ofNat_of_zero_le hab.1
      have HI : Hid ((atTo ks k k).toNat = i) := by rw [hi]; rfl
      rw [hi] at hab ⊢
      clear hi
      have hik : i ≤ k := by omega
      clear hab hlt hk HK
      go_wp2
      go_region_with (go_at_call 9; refine (ins_any b k i vb m p q _ hik hn hm ?_ ?_).mono ?_; exact HP.out; exact HQ.out; rintro e w1 ⟨h, cap, rfl, hrow, hbel, hor⟩; have g2 : w1.cell? ⟨x, 2, none⟩ = some (.pointer (some ⟨o, 0, none⟩)) := (hbel.cell hx).trans h2; have g3 : w1.cell? ⟨o, 3, none⟩ = some (.slice (some ⟨b, 0, none⟩) k k) := (hbel.cell ho).trans h3; have gf : w1.frozen? ⟨o, 3, none⟩ = false := (hbel.frozen ho).trans hf)
      all_goals
        go_wp2
        go_end0
        refine ⟨rfl, ?_⟩
        rw [HI.out]
        exact impPost_of hrow (below_of_drew hbel) (by intro e; rcases hor with h1 | h1; exact hbo (h1.symm.trans e); rw [e] at h1; exact absurd ho (Nat.not_lt.2 h1)) ho g3

end Go.Proofs.Ybulkccxe
