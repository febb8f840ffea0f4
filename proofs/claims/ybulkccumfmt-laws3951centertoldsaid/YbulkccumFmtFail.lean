import Derived.Test.YbulkccumFmtSkip
import Derived.Test.YbulkccumFmtFacts
import Derived.Deep.RegionWith
import Derived.Deep.RegionHeld3
namespace Go.Proofs.YbulkccumFmt
open Go.RowKit Go.Extern.Stop Go.Stop Go.Extern
attribute [local go_sem] call8 guard8 fmtNested act3 op3

theorem rows_nested (F : Interp) (g : Nat) (m : Int) (w : World) (R : Value → World → Prop) (hF : F.answers w.tape) (hg : w.cell? ⟨g, 0, none⟩ = some (.iface 3 (.int .i64 m))) (h : ∀ s, R (.string s) w.drew) :
    Rows Ybaf.prog FmtCalls.turnsRow (FmtCalls.save 0 0 (Value.slice (some { block := g, off := 0 }) 1 1) ⟨#[110, 101, 115, 116, 101, 100, 32, 109, 111, 114, 101, 32, 116, 104, 97, 110, 32, 37, 100, 32, 100, 101, 101, 112]⟩ [] [(0, 100, false)]) w R := by
  have hF' := answers_open hF
  apply rows_value nextTurns
  case hr =>
    go_simp
    exact ⟨rfl, rfl⟩
  case h => exact h _

set_option maxHeartbeats 400000 in
theorem fail_any (F : Interp) (b g pos : Nat) (m : Int) (w : World) (hF : F.answers w.tape)
    (h1 : w.cell? ⟨b, 1, none⟩ = some (.int .i64 pos))
    (hg : w.cell? ⟨g, 0, none⟩ = some (.iface 3 (.int .i64 m))) :
    Calls Ybaf.prog 6 #[.pointer (some ⟨b, 0, none⟩), .string ⟨#[110, 101, 115, 116, 101, 100, 32, 109, 111, 114, 101, 32, 116, 104, 97, 110, 32, 37, 100, 32, 100, 101, 101, 112]⟩, .slice (some ⟨g, 0, none⟩) 1 1] w
      fun e w' => ∃ s, e = .returned (.pointer (some ⟨w.heap.size, 0, none⟩)) ∧ w' = (w.alloc (.cells #[.int .i64 pos, .string s] 37)).drew.drew := by
  go_enter Ybaf.func6, Ybaf.ntmps6
  go_wp2
  go_region_with (refine rows_nested F g m _ _ (by exact hF) (by exact hg) ?_; intro s)
  all_goals
    go_wp2
    go_ret
    exact ⟨s, rfl, rfl⟩

/-- What enter leaves: the parser's first four cells; all below the parser's block as it was. -/
structure After (b : Nat) (sl : Value) (pos : Nat) (dep mx : Int) (w w' : World) : Prop where
  below : Below b w w'
  c0 : w'.cell? ⟨b, 0, none⟩ = some sl
  c1 : w'.cell? ⟨b, 1, none⟩ = some (.int .i64 pos)
  c2 : w'.cell? ⟨b, 2, none⟩ = some (.int .i64 dep)
  c3 : w'.cell? ⟨b, 3, none⟩ = some (.int .i64 mx)

set_option maxHeartbeats 400000 in
theorem enter_deep (F : Interp) (b pos : Nat) (sl : Value) (dep mx : Int) (w : World) (hF : F.answers w.tape) (hb : b < w.heap.size)
    (h0 : w.cell? ⟨b, 0, none⟩ = some sl)
    (h1 : w.cell? ⟨b, 1, none⟩ = some (.int .i64 pos))
    (h2 : w.cell? ⟨b, 2, none⟩ = some (.int .i64 dep))
    (h3 : w.cell? ⟨b, 3, none⟩ = some (.int .i64 mx))
    (hf : w.frozen? ⟨b, 2, none⟩ = false)
    (hgt : mx < wrap64 (dep + 1)) :
    Calls Ybaf.prog 4 #[.pointer (some ⟨b, 0, none⟩)] w
      fun e w' => ∃ x, e = .returned (.iface 34 (.pointer (some ⟨x, 0, none⟩))) ∧ w'.cell? ⟨x, 0, none⟩ = some (.int .i64 pos) ∧ After b sl pos (wrap64 (dep + 1)) mx w w' := by
  go_enter Ybaf.func4, Ybaf.ntmps4
  go_wp2
  go_quiet (fail)
  go_wp2_with fail
  refine (fail_any F b w.heap.size pos mx _ (by exact hF) ?_ ?_).mono ?_
  · go_simp
  · go_simp
  rintro e w1 ⟨s, rfl, rfl⟩
  go_wp2
  go_ret
  refine ⟨w.heap.size + 1, by simp, by go_simp, ?_, by go_simp, by go_simp, ?_, by go_simp⟩
  · refine Below.drew (Below.drew (Below.alloc (Below.alloc (below_drewN (Below.setCell (B := b) (p := ⟨b, 2, none⟩) (Below.refl b w) (Nat.le_refl b) _) _) ?_ _) ?_ _))
    · simp; omega
    · simp; omega
  · go_simp

set_option maxHeartbeats 400000 in
theorem enter_ok (b d n cap pos : Nat) (zs : List Int) (dep mx : Int) (w : World) (hn : n ≤ 1024) (hp : pos ≤ 1024) (hbd : b ≠ d) (hz : zs.length = n)
    (h0 : w.cell? ⟨b, 0, none⟩ = some (.slice (some ⟨d, 0, none⟩) n cap))
    (h1 : w.cell? ⟨b, 1, none⟩ = some (.int .i64 pos))
    (h2 : w.cell? ⟨b, 2, none⟩ = some (.int .i64 dep))
    (h3 : w.cell? ⟨b, 3, none⟩ = some (.int .i64 mx))
    (hf1 : w.frozen? ⟨b, 1, none⟩ = false)
    (hf : w.frozen? ⟨b, 2, none⟩ = false)
    (hd : ∀ i, i < n → w.cell? ⟨d, i, none⟩ = some (.int .u8 (zs.getD i 0)))
    (hle : ¬ mx < wrap64 (dep + 1)) :
    Calls Ybaf.prog 4 #[.pointer (some ⟨b, 0, none⟩)] w
      fun e w' => e = .returned .nilIface ∧ After b (.slice (some ⟨d, 0, none⟩) n cap) (skipTo zs (pos + 1)) (wrap64 (dep + 1)) mx w w' := by
  have HD : Hid (∀ i, i < n → w.cell? ⟨d, i, none⟩ = some (.int .u8 (zs.getD i 0))) := hd
  clear hd
  have HZ : Hid (zs.length = n) := hz
  clear hz
  go_enter Ybaf.func4, Ybaf.ntmps4
  go_wp2
  go_quiet (fail)
  go_wp2_with fail
  refine (skip_any b d n cap (pos + 1) zs _ hn (by omega) hbd HZ.out ?_ ?_ ?_ ?_).mono ?_
  · go_simp
  · go_simp
  · go_simp
  · intro i hi
    have hne : ∀ o, (⟨b, o, none⟩ : Addr) ≠ ⟨d, i, none⟩ := fun o e => by injection e with e; exact hbd e
    rw [World.cell?_setCell_other _ _ _ _ (hne 1)]
    show (w.setCell ⟨b, 2, none⟩ (.int .i64 (wrap64 (dep + 1)))).cell? ⟨d, i, none⟩ = _
    rw [World.cell?_setCell_other _ _ _ _ (hne 2)]
    exact HD.out i hi
  rintro e w1 ⟨rfl, hk, hpos⟩
  go_wp2
  go_ret
  refine ⟨rfl, (Below.setCell (B := b) (p := ⟨b, 1, none⟩) (below_drewN (Below.setCell (B := b) (p := ⟨b, 2, none⟩) (Below.refl b w) (Nat.le_refl b) _) _) (Nat.le_refl b) _).trans hk.below, ?_, hpos, ?_, ?_⟩
  · rw [hk.cell _ (by simp)]; go_simp
  · rw [hk.cell _ (by simp)]; go_simp
  · rw [hk.cell _ (by simp)]; go_simp

end Go.Proofs.YbulkccumFmt
