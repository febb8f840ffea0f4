import Derived.Test.YbulkccumFmtLeaf
import Derived.Deep.LoopGhost
namespace Go.Proofs.YbulkccumFmt
open Go.RowKit

/-- Where the white space from k on ends. -/
def skipTo (zs : List Int) (k : Nat) : Nat := k + ((zs.drop k).takeWhile spB).length

theorem skipTo_step (zs : List Int) (k : Nat) (h : k < zs.length) (hs : spB (zs.getD k 0) = true) : skipTo zs (k + 1) = skipTo zs k := by
  unfold skipTo
  rw [List.drop_eq_getElem_cons h]
  have e : zs.getD k 0 = zs[k] := by simp [List.getD, h]
  rw [e] at hs
  rw [List.takeWhile_cons, if_pos hs]
  simp; omega

theorem skipTo_stop (zs : List Int) (k : Nat) (h : k < zs.length) (hs : spB (zs.getD k 0) = false) : skipTo zs k = k := by
  unfold skipTo
  rw [List.drop_eq_getElem_cons h]
  have e : zs.getD k 0 = zs[k] := by simp [List.getD, h]
  rw [e] at hs
  rw [List.takeWhile_cons, if_neg (by simp [hs])]
  simp

theorem skipTo_end (zs : List Int) (k : Nat) (h : ¬ k < zs.length) : skipTo zs k = k := by
  unfold skipTo
  rw [List.drop_eq_nil_of_le (by omega)]
  simp

/-- What skipSpace leaves as it was: all but the one cell ⟨b, 1⟩. -/
structure Kept (b : Nat) (w w' : World) : Prop where
  below : Below b w w'
  size : w'.heap.size = w.heap.size
  cell : ∀ a : Addr, a ≠ ⟨b, 1, none⟩ → w'.cell? a = w.cell? a
  froz : ∀ a : Addr, w'.frozen? a = w.frozen? a

theorem Kept.refl (b : Nat) (w : World) : Kept b w w := ⟨Below.refl _ _, rfl, fun _ _ => rfl, fun _ => rfl⟩
theorem Kept.drewN {b : Nat} {w w' : World} (h : Kept b w w') (n : Nat) : Kept b w (w'.drewN n) :=
  ⟨below_drewN h.below n, h.size, fun a ha => h.cell a ha, fun a => h.froz a⟩
theorem Kept.set {b : Nat} {w w' : World} (h : Kept b w w') (v : Value) : Kept b w (w'.setCell ⟨b, 1, none⟩ v) :=
  ⟨h.below.setCell (Nat.le_refl _) v, by rw [← h.size]; simp [World.setCell], fun a ha => by rw [World.cell?_setCell_other _ _ _ _ (Ne.symm ha)]; exact h.cell a ha, fun a => by rw [World.frozen?_setCell]; exact h.froz a⟩

set_option maxHeartbeats 400000 in
theorem skip_any (b d n cap pos : Nat) (zs : List Int) (w : World) (hn : n ≤ 1024) (hp : pos ≤ 2048) (hbd : b ≠ d) (hz : zs.length = n)
    (h0 : w.cell? ⟨b, 0, none⟩ = some (.slice (some ⟨d, 0, none⟩) n cap))
    (h1 : w.cell? ⟨b, 1, none⟩ = some (.int .i64 pos))
    (hf : w.frozen? ⟨b, 1, none⟩ = false)
    (hd : ∀ i, i < n → w.cell? ⟨d, i, none⟩ = some (.int .u8 (zs.getD i 0))) :
    Calls Ybaf.prog 7 #[.pointer (some ⟨b, 0, none⟩)] w fun e w' => e = .returned (.tuple #[]) ∧ Kept b w w' ∧ w'.cell? ⟨b, 1, none⟩ = some (.int .i64 (skipTo zs pos)) := by
  have HD : Hid (∀ i, i < n → w.cell? ⟨d, i, none⟩ = some (.int .u8 (zs.getD i 0))) := hd
  clear hd
  have HZ : Hid (zs.length = n) := hz
  clear hz
  go_enter Ybaf.func7, Ybaf.ntmps7
  go_wp2
  go_loopg [] (4096 - pos) (fun m wr => ∃ k : Nat, m = 4096 - k ∧ k ≤ 2048 ∧ skipTo zs k = skipTo zs pos ∧ Kept b w wr ∧ wr.cell? ⟨b, 1, none⟩ = some (.int .i64 k))
  case atStart => exact ⟨pos, rfl, hp, rfl, Kept.refl _ _, h1⟩
  case round =>
    obtain ⟨k, hm, hk, hsk, hkept, hc1⟩ := hrel
    have hc0 : wr.cell? ⟨b, 0, none⟩ = some (.slice (some ⟨d, 0, none⟩) n cap) := by rw [hkept.cell _ (by simp)]; exact h0
    have hfr : wr.frozen? ⟨b, 1, none⟩ = false := by rw [hkept.froz]; exact hf
    have HK : Hid (gk = 4096 - k ∧ skipTo zs k = skipTo zs pos ∧ Kept b w wr) := ⟨hm, hsk, hkept⟩
    clear hm hsk hkept h0 h1 hf
    by_cases hlt : k < n
    · have hck : wr.cell? ⟨d, k, none⟩ = some (.int .u8 (zs.getD k 0)) := by
        rw [HK.out.2.2.cell _ (by intro e; injection e with e; exact hbd e.symm)]; exact HD.out k hlt
      have hb1 : (0 : Int) ≤ (k : Int) := by omega
      have hb2 : (k : Int) < (n : Int) := by omega
      have HS : Hid ((spB (zs.getD k 0) = true → skipTo zs (k + 1) = skipTo zs k) ∧ (spB (zs.getD k 0) = false → skipTo zs k = k)) :=
        ⟨fun h => skipTo_step zs k (by have := HZ.out; omega) h, fun h => skipTo_stop zs k (by have := HZ.out; omega) h⟩
      generalize zs.getD k 0 = c at *
      cases hs : spB c
      · go_wp2
        go_quiet ((go_at_call 9; exact Calls.quiet_of_same (isSpace_any _ _)))
        go_wp2
        go_end0
        obtain ⟨hm, hsk, hkept⟩ := HK.out
        refine ⟨rfl, hkept.drewN _, ?_⟩
        rw [← hsk, HS.out.2 hs]
        exact hc1
      · go_wp2
        go_quiet ((go_at_call 9; exact Calls.quiet_of_same (isSpace_any _ _)))
        go_wp2
        go_roundg (4096 - (k + 1))
        case measure => obtain ⟨hm, hsk, hkept⟩ := HK.out; omega
        case rel =>
          obtain ⟨hm, hsk, hkept⟩ := HK.out
          refine ⟨k + 1, rfl, by omega, by rw [HS.out.1 hs]; exact hsk, (hkept.drewN _).set _, ?_⟩
          exact World.cell?_setCell_same _ _ _ (show (wr.drewN nq).cell? ⟨b, 1, none⟩ = _ from hc1)
    · have hd : decide ((k : Int) < (n : Int)) = false := by simp; omega
      have HS : Hid (skipTo zs k = k) := skipTo_end zs k (by have := HZ.out; omega)
      go_wp2
      go_quiet (fail)
      go_wp2
      go_end0
      obtain ⟨hm, hsk, hkept⟩ := HK.out
      refine ⟨rfl, hkept.drewN _, ?_⟩
      rw [← hsk, HS.out]
      exact hc1

end Go.Proofs.YbulkccumFmt
