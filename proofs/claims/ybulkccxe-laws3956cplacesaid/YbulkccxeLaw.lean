import Derived.Test.YbulkccxeImp
import Derived.Test.YbulkccxeParts
namespace Go.Proofs.Ybulkccxe
open Go.RowKit
attribute [local go_sem] neq24

/-- What is known of a slice of bytes that came in. -/
def Came (a : Option Addr) (n : Nat) (ks : Nat → Int) (w : World) : Prop :=
  ∀ k, k < n → ∃ x, a = some x ∧ x.block < w.heap.size ∧ w.cell? (x.add k) = some (.int .u8 (ks k)) ∧ 0 ≤ ks k ∧ ks k ≤ 255

theorem add_block (x : Addr) (k : Nat) : (x.add k).block = x.block := by unfold Addr.add; split <;> rfl

set_option maxHeartbeats 1000000 in
set_option maxRecDepth 100000 in
theorem law_any (a0 a1 : Option Addr) (n m c0 c1 : Nat) (ks js : Nat → Int) (w : World)
    (hn : n ≤ 1024) (hm : m ≤ 1024) (h0 : Came a0 n ks w) (h1 : Came a1 m js w) :
    Calls Yba.prog 3 #[.slice a0 n c0, .slice a1 m c1] w fun e w' => e = .returned (.bool true) ∧ Below w.heap.size w w' := by
  have H0 : Hid (Came a0 n ks w) := h0
  have H1 : Hid (Came a1 m js w) := h1
  clear h0 h1
  have hmk := fun w => run_make_row' (P := Yba.prog) 23 24 (.pointer none) 8 Yba.underlying23 info24 rfl .i64 .i64 n (by omega) (by omega) w
  have hmk2 := fun w => run_make_row' (P := Yba.prog) 23 24 (.pointer none) 8 Yba.underlying23 info24 rfl .i64 .i64 m (by omega) (by omega) w
  have hg1 : ¬ (1024 : Int) < (n : Int) := by omega
  have hg2 : ¬ (1024 : Int) < (m : Int) := by omega
  go_enter Yba.func3, Yba.ntmps3
  go_wp2
  clear hmk
  have HMK : Hid (∀ w, (Instr.makeSlice 23 (.int .i64 (m : Int)) (.int .i64 (m : Int))).run Yba.prog w = .ok (.slice (some ⟨w.heap.size, 0, none⟩) m m) (w.alloc (.cells (madeCells #[.pointer none] m) 24))) := hmk2
  clear hmk2
  go_loopw [39] (fun i wr => ∃ k : Nat, k ≤ n ∧ i = .int .i64 k ∧ Below w.heap.size w wr ∧ ∃ p, Laid w.heap.size n k p wr ∧ Stm k p ks (w.heap.size + 1) wr)
    (fun i _ => n - (intOf i).toNat)
  case atStart => exact ⟨0, Nat.zero_le _, rfl, (Below.refl _ _).alloc (Nat.le_refl _) _, fun _ => 0, Laid.made w n _, ⟨fun j hj => by omega, fun j hj => by omega, fun j hj => by omega⟩⟩
  case round =>
    obtain ⟨k, hk, rfl, hbel, p, hlaid, hstm⟩ := hrel
    have hsz : w.heap.size < wr.heap.size := World.rowIs.lt hlaid
    by_cases hlt : k < n
    · obtain ⟨x, rfl, hxb, hxc, hx0, hx1⟩ := H0.out k hlt
      have hxc' : wr.cell? (x.add k) = some (.int .u8 (ks k)) := (hbel.cell (p := x.add k) (by rw [add_block]; exact hxb)).trans hxc
      clear hxc
      have hbc : wr.cell? ⟨w.heap.size, k, none⟩ = some (.pointer none) := by have := World.rowIs.cell hlaid hlt; rw [this, if_neg (by omega)]
      have hbf : wr.frozen? ⟨w.heap.size, k, none⟩ = false := World.rowIs.frozen hlaid k
      have HL : Hid (Below w.heap.size w wr ∧ Laid w.heap.size n k p wr ∧ Stm k p ks (w.heap.size + 1) wr) := ⟨hbel, hlaid, hstm⟩
      clear hbel hlaid hstm
      go_wp2_with (go_at_call 4; refine (kw_any _ _ hx0 hx1).mono ?_; rintro e w' ⟨rfl, hw⟩; rw [hw]; clear hw w')
      go_roundw
      case rel =>
        obtain ⟨hbel, hlaid, hstm⟩ := HL.out
        exact ⟨k + 1, by omega, by go_num, (hbel.setCell (Nat.le_refl _) _).alloc (by simp [World.setCell]; omega) _, _, hlaid.next' _, hstm.next' hsz _ _ _ _⟩
      case measure => simp [intOf]; omega
    · obtain rfl : k = n := by omega
      clear hk hlt
      -- behind the first loop
      obtain ⟨W1, hW1⟩ : ∃ W1, W1 = wr := ⟨_, rfl⟩
      subst hW1
      have hprow : PRow w.heap.size k p W1 := hlaid.prow
      have HL : Hid (Below w.heap.size w W1 ∧ PRow w.heap.size k p W1 ∧ Stm k p ks (w.heap.size + 1) W1) := ⟨hbel, hprow, hstm⟩
      clear hbel hlaid hstm hprow
      have hmk2 := HMK.out
      go_wp2
      clear hmk2
      go_loopw [58] (fun i wr2 => ∃ j : Nat, j ≤ m ∧ i = .int .i64 j ∧ Below W1.heap.size W1 wr2 ∧ ∃ q, Laid W1.heap.size m j q wr2)
        (fun i _ => m - (intOf i).toNat)
      case atStart => exact ⟨0, Nat.zero_le _, rfl, (Below.refl _ _).alloc (Nat.le_refl _) _, fun _ => 0, Laid.made W1 m _⟩
      case round =>
        obtain ⟨j, hj, rfl, hbel, q, hlaid⟩ := hrel
        have hsz2 : W1.heap.size < wr.heap.size := World.rowIs.lt hlaid
        by_cases hlt : j < m
        · obtain ⟨x, rfl, hxb, hxc, hx0, hx1⟩ := H1.out j hlt
          have hxc' : wr.cell? (x.add j) = some (.int .u8 (js j)) := (hbel.cell (p := x.add j) (by rw [add_block]; omega)).trans ((HL.out.1.cell (p := x.add j) (by rw [add_block]; exact hxb)).trans hxc)
          clear hxc
          have hbc : wr.cell? ⟨W1.heap.size, j, none⟩ = some (.pointer none) := by have := World.rowIs.cell hlaid hlt; rw [this, if_neg (by omega)]
          have hbf : wr.frozen? ⟨W1.heap.size, j, none⟩ = false := World.rowIs.frozen hlaid j
          have HL2 : Hid (Below W1.heap.size W1 wr ∧ Laid W1.heap.size m j q wr) := ⟨hbel, hlaid⟩
          clear hbel hlaid
          go_wp2_with (go_at_call 4; refine (kw_any _ _ hx0 hx1).mono ?_; rintro e w' ⟨rfl, hw⟩; rw [hw]; clear hw w')
          go_roundw
          case rel =>
            obtain ⟨hbel, hlaid⟩ := HL2.out
            exact ⟨j + 1, by omega, by go_num, (hbel.setCell (Nat.le_refl _) _).alloc (by simp [World.setCell]; omega) _, _, hlaid.next' _⟩
          case measure => simp [intOf]; omega
        · obtain rfl : j = m := by omega
          clear hj hlt
          obtain ⟨W2, hW2⟩ : ∃ W2, W2 = wr := ⟨_, rfl⟩
          subst hW2
          have hprow : PRow W1.heap.size j q W2 := hlaid.prow
          have HL2 : Hid (Below w.heap.size w W2 ∧ PRow w.heap.size k p W2 ∧ Stm k p ks (w.heap.size + 1) W2 ∧ PRow W1.heap.size j q W2) :=
            ⟨HL.out.1.trans (hbel.mono (by omega)), HL.out.2.1.kept hbel hsz, HL.out.2.2.kept' hbel, hprow⟩
          clear hbel hlaid hprow HL HMK H1
          go_wp2_with fail
          refine (clone_any w.heap.size k p _ hn ?_).mono ?_
          · exact HL2.out.2.1
          rintro e W3 ⟨b1, cap1, rfl, hr1, hb1, _⟩
          have hs3 : W2.heap.size ≤ W3.heap.size := hb1.size
          have HL3 : Hid (Below w.heap.size w W3 ∧ PRow w.heap.size k p W3 ∧ Stm k p ks (w.heap.size + 1) W3 ∧ PRow W1.heap.size j q W3 ∧ PRow b1 k p W3) :=
            ⟨HL2.out.1.trans (hb1.mono (by omega)), HL2.out.2.1.kept' hb1, HL2.out.2.2.1.kept' hb1, HL2.out.2.2.2.kept' hb1, hr1⟩
          clear HL2 hr1 hb1
          go_wp2_with fail
          refine (clone_any W1.heap.size j q _ hm ?_).mono ?_
          · exact HL3.out.2.2.2.1
          rintro e W4 ⟨b2, cap2, rfl, hr2, hb2, _⟩
          have hs4 : W3.heap.size ≤ W4.heap.size := hb2.size
          have HL4 : Hid (Below w.heap.size w W4 ∧ PRow w.heap.size k p W4 ∧ Stm k p ks (w.heap.size + 1) W4 ∧ PRow W1.heap.size j q W4 ∧ PRow b1 k p W4 ∧ PRow b2 j q W4) :=
            ⟨HL3.out.1.trans (hb2.mono (by omega)), HL3.out.2.1.kept' hb2, HL3.out.2.2.1.kept' hb2, HL3.out.2.2.2.1.kept' hb2, HL3.out.2.2.2.2.kept' hb2, hr2⟩
          clear HL3 hr2 hb2
          go_wp2_with fail
          obtain ⟨W6, hW6⟩ : ∃ W6, W6 = (W4.alloc (.cells #[.string ⟨#[109, 111, 100, 117, 108, 101]⟩, .string ⟨#[109]⟩, .int .i64 0, .slice (some ⟨w.heap.size, 0, none⟩) k k, .bool false] 27)).alloc
            (.cells #[.pointer none, .bool false, .pointer (some ⟨W4.heap.size, 0, none⟩), .map none, .map none, .slice (some ⟨W1.heap.size, 0, none⟩) j j, .map none, .map none, .slice none 0 0, .map none, .slice none 0 0, .int .i64 0] 39) := ⟨_, rfl⟩
          rw [← hW6]
          have f2 : W6.cell? ⟨W4.heap.size + 1, 2, none⟩ = some (.pointer (some ⟨W4.heap.size, 0, none⟩)) := by rw [hW6]; go_simp
          have f5 : W6.cell? ⟨W4.heap.size + 1, 5, none⟩ = some (.slice (some ⟨W1.heap.size, 0, none⟩) j j) := by rw [hW6]; go_simp
          have f3 : W6.cell? ⟨W4.heap.size, 3, none⟩ = some (.slice (some ⟨w.heap.size, 0, none⟩) k k) := by rw [hW6]; go_simp
          have f0 : W6.cell? ⟨W4.heap.size, 0, none⟩ = some (.string ⟨#[109, 111, 100, 117, 108, 101]⟩) := by rw [hW6]; go_simp
          have f1 : W6.cell? ⟨W4.heap.size, 1, none⟩ = some (.string ⟨#[109]⟩) := by rw [hW6]; go_simp
          have ff : W6.frozen? ⟨W4.heap.size, 3, none⟩ = false := by rw [hW6]; go_simp
          have hz6 : W6.heap.size = W4.heap.size + 2 := by rw [hW6]; simp
          have hb6 : Below W4.heap.size W4 W6 := by rw [hW6]; exact ((Below.refl _ _).alloc (Nat.le_refl _) _).alloc (by simp) _
          clear hW6
          refine (imp_any (W4.heap.size + 1) W4.heap.size w.heap.size k W1.heap.size j p q ks W6 hn hm (by omega) (by omega) (by omega) f2 f5 f3 ff (HL4.out.2.1.kept' hb6) ((HL4.out.2.2.1.kept' hb6).kws) (HL4.out.2.2.2.1.kept' hb6)).mono ?_
          rintro e W7 ⟨rfl, b3, cap3, o3, hr3, hold, hb7⟩
          have hb47 : Below W4.heap.size W4 W7 := hb6.trans hb7
          have o0 : W7.cell? ⟨W4.heap.size, 0, none⟩ = some (.string ⟨#[109, 111, 100, 117, 108, 101]⟩) := (hold _ (by simp; omega) (by simp)).trans f0
          have o1 : W7.cell? ⟨W4.heap.size, 1, none⟩ = some (.string ⟨#[109]⟩) := (hold _ (by simp; omega) (by simp)).trans f1
          have o5 : W7.cell? ⟨W4.heap.size + 1, 5, none⟩ = some (.slice (some ⟨W1.heap.size, 0, none⟩) j j) := (hold _ (by simp; omega) (by simp)).trans f5
          have HL7 : Hid (Below w.heap.size w W7 ∧ Stm k p ks (w.heap.size + 1) W7 ∧ PRow W1.heap.size j q W7 ∧ PRow b1 k p W7 ∧ PRow b2 j q W7 ∧ PRow b3 (k + j) (insF p q (atTo ks k k).toNat j) W7) :=
            ⟨HL4.out.1.trans (hb47.mono (by omega)), HL4.out.2.2.1.kept' hb47, HL4.out.2.2.2.1.kept' hb47, HL4.out.2.2.2.2.1.kept' hb47, HL4.out.2.2.2.2.2.kept' hb47, hr3⟩
          clear HL4 hr3 hold hb7 hb47 f0 f1 f2 f3 f5 ff hz6 hb6
          have hwsz : w.heap.size ≤ W7.heap.size := HL7.out.1.size
          go_wp2
          go_loop [15, 16, 17] (fun a b i => ∃ t : Nat, t ≤ k ∧ i = .int .i64 t ∧ a = .int .i64 (lastImp ks t) ∧ b = .int .i64 (firstPre ks t)) (fun _ _ i => k - (intOf i).toNat)
          case atStart => exact ⟨0, Nat.zero_le _, rfl, rfl, rfl⟩
          case round =>
            obtain ⟨t, ht, rfl, rfl, rfl⟩ := hrel
            by_cases hlt : t < k
            · obtain ⟨x, rfl, hxb, hxc, hx0, hx1⟩ := H0.out t hlt
              have hxc' : W7.cell? (x.add t) = some (.int .u8 (ks t)) := (HL7.out.1.cell (p := x.add t) (by rw [add_block]; exact hxb)).trans hxc
              clear hxc
              have kp := kw_pre (ks t)
              have ki := kw_imp (ks t)
              have fb := firstPre_bd ks t
              have lb := lastImp_bd ks t
              cases hi : isImp (ks t)
              · rw [hi] at ki
                have HI : Hid (lastImp ks (t + 1) = lastImp ks t) := lastImp_miss ks t hi
                cases hp : isPre (ks t)
                · rw [hp] at kp
                  have HF : Hid (firstPre ks (t + 1) = firstPre ks t) := firstPre_same ks t (Or.inl hp)
                  go_wp2_with (go_at_call 4; refine (kw_any _ _ hx0 hx1).mono ?_; rintro e w' ⟨rfl, hw⟩; rw [hw]; clear hw w')
                  go_round
                  case rel => exact ⟨t + 1, by omega, by go_num, by rw [HI.out], by rw [HF.out]⟩
                  case measure => simp [intOf]; omega
                · rw [hp] at kp
                  by_cases hneg : firstPre ks t < 0
                  · have HF : Hid (firstPre ks (t + 1) = t) := firstPre_now ks t hp hneg
                    go_wp2_with (go_at_call 4; refine (kw_any _ _ hx0 hx1).mono ?_; rintro e w' ⟨rfl, hw⟩; rw [hw]; clear hw w')
                    go_round
                    case rel => exact ⟨t + 1, by omega, by go_num, by rw [HI.out], by rw [HF.out]⟩
                    case measure => simp [intOf]; omega
                  · have HF : Hid (firstPre ks (t + 1) = firstPre ks t) := firstPre_same ks t (Or.inr (by omega))
                    go_wp2_with (go_at_call 4; refine (kw_any _ _ hx0 hx1).mono ?_; rintro e w' ⟨rfl, hw⟩; rw [hw]; clear hw w')
                    go_round
                    case rel => exact ⟨t + 1, by omega, by go_num, by rw [HI.out], by rw [HF.out]⟩
                    case measure => simp [intOf]; omega
              · rw [hi] at ki
                have HI : Hid (lastImp ks (t + 1) = t) := lastImp_hit ks t hi
                have hp := imp_not_pre _ hi
                rw [hp] at kp
                have HF : Hid (firstPre ks (t + 1) = firstPre ks t) := firstPre_same ks t (Or.inl hp)
                go_wp2_with (go_at_call 4; refine (kw_any _ _ hx0 hx1).mono ?_; rintro e w' ⟨rfl, hw⟩; rw [hw]; clear hw w')
                go_round
                case rel => exact ⟨t + 1, by omega, by go_num, by rw [HI.out], by rw [HF.out]⟩
                case measure => simp [intOf]; omega
            · obtain rfl : t = k := by omega
              clear ht hlt
              have lb := lastImp_bd ks t
              have fb := firstPre_bd ks t
              have hab := atTo_bd ks t t (Nat.le_refl _)
              have hyes := atTo_yes ks t t
              have hno := atTo_no ks t t
              obtain ⟨i, hi⟩ := Int.eq_ofNat_of_zero_le hab.1
              rw [hi] at hyes hno hab
              have HL8 : Hid (Below w.heap.size w W7 ∧ Stm t p ks (w.heap.size + 1) W7 ∧ PRow W1.heap.size j q W7 ∧ PRow b1 t p W7 ∧ PRow b2 j q W7 ∧ PRow b3 (t + j) (insF p q i j) W7) := by
                have := HL7.out
                rw [hi] at this
                exact this
              clear HL7 hi
              have hit : i ≤ t := by omega
              clear hab
              have hor : (0 ≤ lastImp ks t ∧ lastImp ks t + 1 = (i : Int)) ∨ (¬ 0 ≤ lastImp ks t ∧ firstPre ks t + 1 = (i : Int)) := by
                by_cases hge : 0 ≤ lastImp ks t
                · exact Or.inl ⟨hge, hyes hge⟩
                · exact Or.inr ⟨hge, hno hge⟩
              clear hyes hno
              rcases hor with ⟨hge, e1⟩ | ⟨hge, e1⟩
              all_goals
                go_wp2
                clear e1 hge lb fb
                have HF : Hid (FinW w t j ks p q W4.heap.size W1.heap.size b1 b2 b3 cap3 i W7) := ⟨HL8.out.1, HL8.out.2.1, HL8.out.2.2.1, HL8.out.2.2.2.1, HL8.out.2.2.2.2.1, HL8.out.2.2.2.2.2, o3, o5⟩
                clear HL8 o0 o1 o3 o5
                go_loopw [20] (fun x wr => ∃ s : Nat, s ≤ j ∧ x = .int .i64 s ∧ FinW w t j ks p q W4.heap.size W1.heap.size b1 b2 b3 cap3 i wr) (fun x _ => j - (intOf x).toNat)
                case atStart => exact ⟨0, Nat.zero_le _, rfl, HF.out⟩
                case round =>
                  clear HF
                  obtain ⟨s, hs, rfl, hfin⟩ := hrel
                  have HF : Hid (FinW w t j ks p q W4.heap.size W1.heap.size b1 b2 b3 cap3 i wr) := hfin
                  clear hfin
                  have hs0 : (0 : Int) ≤ (s : Int) := by omega
                  by_cases hlt : s < j
                  · have hs1 : (s : Int) < (j : Int) := by omega
                    have g5 := HF.out.o5
                    have g0 := HF.out.r0 s hlt
                    have g2 := HF.out.r2 s hlt
                    go_wp2
                    go_quiet (fail)
                    go_wp2
                    go_roundw
                    case rel => exact ⟨s + 1, by omega, by go_num, HF.out.drewN _⟩
                    case measure => simp [intOf]; omega
                  · obtain ⟨W8, hW8⟩ : ∃ W8, W8 = wr := ⟨_, rfl⟩
                    subst hW8
                    have g3 := HF.out.o3
                    go_wp2
                    clear hs hlt hs0
                    go_loop [23] (fun x => ∃ s : Nat, s ≤ t + j ∧ x = .int .i64 s) (fun x => t + j - (intOf x).toNat)
                    case atStart => exact ⟨0, Nat.zero_le _, rfl⟩
                    case round =>
                      obtain ⟨s, hs, rfl⟩ := hrel
                      have hs0 : (0 : Int) ≤ (s : Int) := by omega
                      by_cases hlt : s < t + j
                      · have g4 := HF.out.r3 s hlt
                        by_cases c1 : s < i
                        · have g1 := HF.out.r1 s (by omega)
                          rw [show insF p q i j s = p s by unfold insF; rw [if_pos c1]] at g4
                          go_wp2
                          go_round
                          case rel => exact ⟨s + 1, by omega, by go_num⟩
                          case measure => simp [intOf]; omega
                        · by_cases c2 : s < i + j
                          · obtain ⟨d, rfl⟩ : ∃ d, s = i + d := ⟨s - i, by omega⟩
                            have g1 := HF.out.r2 d (by omega)
                            rw [show insF p q i j (i + d) = q d by unfold insF; rw [if_neg c1, if_pos c2, show i + d - i = d by omega]] at g4
                            go_wp2
                            go_round
                            case rel => exact ⟨i + d + 1, by omega, by go_num⟩
                            case measure => simp [intOf]; omega
                          · obtain ⟨d, rfl⟩ : ∃ d, s = d + j := ⟨s - j, by omega⟩
                            have g1 := HF.out.r1 d (by omega)
                            rw [show insF p q i j (d + j) = p d by unfold insF; rw [if_neg c1, if_neg c2, show d + j - j = d by omega]] at g4
                            go_wp2
                            go_round
                            case rel => exact ⟨d + j + 1, by omega, by go_num⟩
                            case measure => simp [intOf]; omega
                      · clear hs
                        go_wp2
                        clear hs0 hlt g3
                        go_loopw [25] (fun x wr => ∃ s : Nat, s ≤ t ∧ x = .int .i64 s ∧ FinW w t j ks p q W4.heap.size W1.heap.size b1 b2 b3 cap3 i wr) (fun x _ => t - (intOf x).toNat)
                        case atStart => exact ⟨0, Nat.zero_le _, rfl, HF.out⟩
                        case round =>
                          clear HF
                          obtain ⟨s, hs, rfl, hfin⟩ := hrel
                          have HF : Hid (FinW w t j ks p q W4.heap.size W1.heap.size b1 b2 b3 cap3 i wr) := hfin
                          clear hfin
                          have hs0 : (0 : Int) ≤ (s : Int) := by omega
                          by_cases hlt : s < t
                          · have hs1 : (s : Int) < (t : Int) := by omega
                            obtain ⟨x, rfl, hxb, hxc, hx0, hx1⟩ := H0.out s hlt
                            have hxc' : wr.cell? (x.add s) = some (.int .u8 (ks s)) := (HF.out.bel.cell (p := x.add s) (by rw [add_block]; exact hxb)).trans hxc
                            clear hxc
                            have g1 := HF.out.r1 s hlt
                            have g6 := HF.out.stm.kw s hlt
                            have g7 := HF.out.stm.line s hlt
                            have hb0 : ((kwS (ks s)).toList != (kwS (ks s)).toList) = false := by simp
                            go_wp2
                            go_quiet ((go_at_call 4; exact Calls.quiet_of_same (kw_any _ _ hx0 hx1)))
                            go_wp2
                            go_roundw
                            case rel => exact ⟨s + 1, by omega, by go_num, HF.out.drewN _⟩
                            case measure => simp [intOf]; omega
                          · go_wp2
                            go_ret
                            exact ⟨rfl, HF.out.bel⟩

set_option maxHeartbeats 400000 in
set_option maxRecDepth 100000 in
theorem law_big (a0 a1 : Option Addr) (n m c0 c1 : Nat) (w : World) (hn : n ≤ maxLen) (hm : m ≤ maxLen) (h : 1024 < n ∨ 1024 < m) :
    Calls Yba.prog 3 #[.slice a0 n c0, .slice a1 m c1] w fun e w' => e = .returned (.bool true) ∧ Below w.heap.size w w' := by
  unfold maxLen at hn hm
  by_cases hg1 : (1024 : Int) < (n : Int)
  · go_enter Yba.func3, Yba.ntmps3
    go_wp2
    go_ret
    exact ⟨rfl, Below.refl _ _⟩
  · have hg2 : (1024 : Int) < (m : Int) := by omega
    go_enter Yba.func3, Yba.ntmps3
    go_wp2
    go_ret
    exact ⟨rfl, Below.refl _ _⟩

end Go.Proofs.Ybulkccxe
