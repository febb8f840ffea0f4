import Derived.Test.YbulkccumFmtFail
import Derived.Deep.OwnRows
namespace Go.Proofs.YbulkccumFmt
open Go.RowKit Go.Extern.Stop Go.Stop Go.Extern

theorem info5 : (Ybaf.prog.info? 5).map (fun i => (i.zero, i.size, i.bytes)) = some (some (.int .u8 0), 1, 1) := by kernel_rfl

theorem asserted (x : Nat) (w : World) : (Instr.typeAssert (.iface 34 (.pointer (some ⟨x, 0, none⟩))) 32 34 true).run Ybaf.prog w = .ok (.tuple #[.pointer (some ⟨x, 0, none⟩), .bool true]) w := by kernel_rfl

/-- Block B is a row of n bytes of the call's own. -/
def Row (B n : Nat) (wr : World) (f : Nat → Int) : Prop := wr.rowIs B 5 n (fun j => .int .u8 (f j))
theorem Row.set {B n : Nat} {wr : World} {f : Nat → Int} (h : Row B n wr f) (k : Nat) (v : Int) : Row B n (wr.setCell ⟨B, k, none⟩ (.int .u8 v)) (fun j => if j = k then v else f j) :=
  World.rowIs.congr (World.rowIs.set h k _) (fun i _ => by show (if i = k then Value.int .u8 v else .int .u8 (f i)) = .int .u8 (if i = k then v else f i); split <;> rfl)
theorem Row.made (w : World) (n : Nat) : Row w.heap.size n (w.alloc (.cells (madeCells #[.int .u8 0] n) 5)) (fun _ => 0) := World.rowIs_made w _ n 5

set_option maxHeartbeats 400000 in
theorem law_any (F : Interp) (a0 : Option Addr) (n cap : Nat) (zs : List Int) (p dep mx : Int) (w : World) (hF : F.answers w.tape)
    (hn : n ≤ 1024) (hp0 : 0 ≤ p) (hp1 : p ≤ 65535)
    (hcell : ∀ k, k < n → ∃ x, a0 = some x ∧ x.block < w.heap.size ∧ w.cell? (x.add k) = some (.int .u8 (zs.getD k 0)) ∧ 0 ≤ zs.getD k 0 ∧ zs.getD k 0 ≤ 255) :
    Calls Ybaf.prog 3 #[.slice a0 n cap, .int .u16 p, .int .i64 dep, .int .i64 mx] w
      fun e w' => e = .returned (.bool true) ∧ Below w.heap.size w w' := by
  have hmk := fun w => run_make_row' (P := Ybaf.prog) 22 5 (.int .u8 0) 1 Ybaf.underlying22 info5 rfl .i64 .i64 n (by omega) (by omega) w
  have hg1 : ¬ (1024 : Int) < (n : Int) := by omega
  go_enter Ybaf.func3, Ybaf.ntmps3
  go_wp2
  clear hmk
  go_loopw [27] (fun i wr => ∃ k : Nat, k ≤ n ∧ i = .int .i64 k ∧ Below w.heap.size w wr ∧ ∃ f, Row w.heap.size n wr f)
    (fun i _ => n - (intOf i).toNat)
  case atStart => exact ⟨0, Nat.zero_le _, rfl, (Below.refl _ _).alloc (Nat.le_refl _) _, _, Row.made w n⟩
  case round =>
    obtain ⟨k, hk, rfl, hbel, f, hrow⟩ := hrel
    by_cases hlt : k < n
    · obtain ⟨x, rfl, hxb, hxc, hx0, hx1⟩ := hcell k hlt
      have hxc' : wr.cell? (x.add k) = some (.int .u8 (zs.getD k 0)) := (hbel.cell (p := x.add k) (by unfold Addr.add; split <;> exact hxb)).trans hxc
      clear hcell hxc
      have hbc : wr.cell? ⟨w.heap.size, k, none⟩ = some (.int .u8 (f k)) := World.rowIs.cell hrow hlt
      have hbf : wr.frozen? ⟨w.heap.size, k, none⟩ = false := World.rowIs.frozen hrow k
      generalize zs.getD k 0 = r at *
      go_wp2
      go_roundw
      case rel => exact ⟨k + 1, by omega, by go_num, hbel.setCell (Nat.le_refl _) _, _, hrow.set k _⟩
      case measure => simp [intOf]; omega
    · have hkn : k = n := by omega
      subst hkn
      clear hk hlt
      have hsz : w.heap.size < wr.heap.size := World.rowIs.lt hrow
      have Hrow : Hid (Row w.heap.size k wr f) := hrow
      have Hbel : Hid (Below w.heap.size w wr) := hbel
      have hFr : F.answers wr.tape := by rw [hbel.tape]; exact hF
      clear hrow hbel hcell
      go_wp2_with fail
      have hq0 : 0 ≤ p % ((k : Int) + 1) := Int.emod_nonneg _ (by omega)
      have hq1 : p % ((k : Int) + 1) < (k : Int) + 1 := Int.emod_lt_of_pos _ (by omega)
      generalize p % ((k : Int) + 1) = q at *
      obtain ⟨st, rfl⟩ := Int.eq_ofNat_of_zero_le hq0
      have hst : st ≤ k := by omega
      clear hq0 hq1
      by_cases hgt : mx < wrap64 (dep + 1)
      · refine (enter_deep F wr.heap.size st (.slice (some ⟨w.heap.size, 0, none⟩) k k) dep mx _ (by exact hFr) (by simp) (by go_simp) (by go_simp) (by go_simp) (by go_simp) (by go_simp) hgt).mono ?_
        rintro e w1 ⟨x, rfl, hx, ha⟩
        obtain ⟨hb1, c0, c1, c2, c3⟩ := ha
        have Hb1 : Hid (Below w.heap.size w w1) := ((Hbel.out.alloc (Nat.le_of_lt hsz) _).trans (hb1.mono (Nat.le_of_lt hsz)))
        clear hb1
        have hta := asserted x
        go_wp2
        go_ret
        exact ⟨rfl, Hb1.out⟩
      · have hz : ((List.range k).map f).length = k := by simp
        refine (enter_ok wr.heap.size w.heap.size k k st ((List.range k).map f) dep mx _ hn (by omega) (by omega) hz (by go_simp) (by go_simp) (by go_simp) (by go_simp) (by go_simp) (by go_simp) ?_ hgt).mono ?_
        · intro i hi
          have := World.rowIs.cell (World.rowIs.alloc Hrow.out (Obj.cells #[Value.slice (some { block := w.heap.size, off := 0 }) k k, Value.int IntKind.i64 (st : Int), Value.int IntKind.i64 dep, Value.int IntKind.i64 mx, Value.slice none 0 0, Value.slice none 0 0, Value.slice none 0 0, Value.slice none 0 0, Value.slice none 0 0, Value.slice none 0 0] 30)) hi
          rw [this]
          simp [hi]
        rintro e w1 ⟨rfl, ha⟩
        obtain ⟨hb1, c0, c1, c2, c3⟩ := ha
        have Hd : Hid (∀ i, i < k → w1.cell? ⟨w.heap.size, i, none⟩ = some (.int .u8 (((List.range k).map f).getD i 0))) := by
          intro i hi
          rw [hb1.cell (p := ⟨w.heap.size, i, none⟩) hsz]
          have := World.rowIs.cell (World.rowIs.alloc Hrow.out (Obj.cells #[Value.slice (some { block := w.heap.size, off := 0 }) k k, Value.int IntKind.i64 (st : Int), Value.int IntKind.i64 dep, Value.int IntKind.i64 mx, Value.slice none 0 0, Value.slice none 0 0, Value.slice none 0 0, Value.slice none 0 0, Value.slice none 0 0, Value.slice none 0 0] 30)) hi
          rw [this]
          simp [hi]
        have Hb1 : Hid (Below w.heap.size w w1) := ((Hbel.out.alloc (Nat.le_of_lt hsz) _).trans (hb1.mono (Nat.le_of_lt hsz)))
        clear hb1
        have Hz : Hid (((List.range k).map f).length = k) := hz
        clear hz
        generalize (List.range k).map f = ys at *
        go_wp2
        clear hgt
        go_loop [18] (fun i => ∃ j : Nat, j ≤ 2048 ∧ i = .int .i64 j ∧ Hid (skipTo ys j = skipTo ys (st + 1))) (fun i => 4096 - (intOf i).toNat)
        case atStart => exact ⟨st + 1, by omega, by go_num, rfl⟩
        case round =>
          obtain ⟨j, hj, rfl, HJ⟩ := hrel
          by_cases hlt : j < k
          · have hcj := Hd.out j hlt
            have HS : Hid ((spB (ys.getD j 0) = true → skipTo ys (j + 1) = skipTo ys j) ∧ (spB (ys.getD j 0) = false → skipTo ys j = j)) :=
              ⟨fun h => skipTo_step ys j (by have := Hz.out; omega) h, fun h => skipTo_stop ys j (by have := Hz.out; omega) h⟩
            generalize ys.getD j 0 = c at *
            cases hs : spB c
            · have HE : Hid (skipTo ys (st + 1) = j) := by rw [← HJ.out]; exact HS.out.2 hs
              go_wp2_with (go_at_call 5; refine (zzspace_any _ _).mono ?_; rintro e w' ⟨rfl, rfl⟩)
              go_ret
              refine ⟨?_, Hb1.out⟩
              rw [HE.out]
              simp
            · go_wp2_with (go_at_call 5; refine (zzspace_any _ _).mono ?_; rintro e w' ⟨rfl, rfl⟩)
              go_round
              case rel => exact ⟨j + 1, by omega, by go_num, (HS.out.1 hs).trans HJ.out⟩
              case measure => simp [intOf]; omega
          · have HE : Hid (skipTo ys (st + 1) = j) := by rw [← HJ.out]; exact skipTo_end ys j (by have := Hz.out; omega)
            go_wp2
            go_ret
            refine ⟨?_, Hb1.out⟩
            rw [HE.out]
            simp

end Go.Proofs.YbulkccumFmt
