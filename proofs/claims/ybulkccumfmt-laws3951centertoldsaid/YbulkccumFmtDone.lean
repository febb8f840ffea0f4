import Derived.Test.YbulkccumFmtCards
import Derived.Test.YbulkccumFmtLaw
import Derived.ProofKit
import Derived.OpenShut
import Derived.ShutString
import Derived.ChangeOld
import Derived.Below
import Derived.Stop.JoinedAt
import Derived.Stop.Texts
import Derived.Stop.JoinedTold
import Derived.SevenToldRow
namespace Go.Proofs.YbulkccumFmt
open Go.ChangeShapes Go.WideShapes Go.ChangeAt Go.RowKit Go.Kit
open Go.Extern.Stop Go.Stop Go.Extern
set_option linter.unusedVariables false

theorem own : ownKnob Ybaf.prog.godebug = none := by kernel_rfl
theorem laidOut : laidOutB Ybaf.prog = true := by kernel_rfl

set_option maxHeartbeats 400000 in
theorem law_big (a0 : Option Addr) (n cap : Nat) (p dep mx : Int) (w : World) (hn : 1024 < n) (hm : n ≤ maxLen) :
    Calls Ybaf.prog 3 #[.slice a0 n cap, .int .u16 p, .int .i64 dep, .int .i64 mx] w
      fun e w' => e = .returned (.bool true) ∧ Below w.heap.size w w' := by
  unfold maxLen at hm
  have hg1 : (1024 : Int) < (n : Int) := by omega
  go_enter Ybaf.func3, Ybaf.ntmps3
  go_wp2
  go_ret
  exact ⟨rfl, Below.refl _ _⟩

set_option maxRecDepth 100000 in
theorem lifted (os : Os) (started : os.Started) (H : Type) (enc : TypeId × Value → H) :
    ReturnsInTold none {} Ybaf.checked os 3 .any Input.okWide ((OpenSpec.ofChange Rows.lawS3951CEnterSpec).preRow enc Ybaf.prog Ybaf.f3 [] false []) (fun F => ((OpenSpec.ofChange Rows.lawS3951CEnterSpec).at F).post enc Ybaf.prog Ybaf.f3 false true false false) (aloneAtReturn Ybaf.prog) nothingAlways := by
  refine returnsInTold_of_row (C := Ybaf.checked) (s := OpenSpec.ofChange Rows.lawS3951CEnterSpec) (by kernel_rfl) own started (by kernel_rfl) Ybaf.func3
    (OpenSpec.witness_stopped (enc := enc) (C := Ybaf.checked) false ⟨#[], #[.slice none 0 0, .int .u16 0, .int .i64 0, .int .i64 0], []⟩ 8 (by kernel_rfl) (by kernel_rfl) (by kernel_rfl) (by kernel_rfl)) ?_
  intro F W base args ds gs before _ hF hval0 hW _ _ _ _ _
  have hval : ∀ (j : Nat) t v, Ybaf.f3.params[j]? = some t → args[j]? = some v → Value.okWide Ybaf.prog W .any base t v := hval0
  have hW' := hW
  obtain ⟨p, q, hA0, hV, rfl, hfz, hnd⟩ := hW
  have hA : DataW.TrodAll enc Ybaf.prog W 0 (fun _ => true) true Ybaf.f3.params.toList args.toList ds p := hA0
  rw [Ybaf.params3] at hA hval
  obtain ⟨v0, vs0, d0, ds0, p0, q0, hargs, rfl, rfl, h0, r0⟩ := trodAll_cons hA
  obtain ⟨v1, vs1, d1, ds1, p1, q1, rfl, rfl, rfl, h1, r1⟩ := trodAll_cons r0
  obtain ⟨v2, vs2, d2, ds2, p2, q2, rfl, rfl, rfl, h2, r2⟩ := trodAll_cons r1
  obtain ⟨v3, vs3, d3, ds3, p3, q3, rfl, rfl, rfl, h3, r3⟩ := trodAll_cons r2
  obtain ⟨rfl, rfl, rfl⟩ := trodAll_nil r3
  obtain rfl : args = #[v0, v1, v2, v3] := by cases args; simp_all
  obtain ⟨rfl, rfl⟩ := trodVars_none hV
  obtain ⟨a0, len0, cap0, rfl⟩ := okWide_slice Ybaf.underlying22 (hval 0 22 v0 rfl rfl)
  have k0 := h0
  have lt0 : ∀ x ∈ p0, x.block < W.heap.size := by obtain ⟨m, hm⟩ := k0; exact DataW.trod_lt m _ _ _ hm
  obtain ⟨x1, rfl, rfl, rfl, w1⟩ := open_int Ybaf.underlying23 (hval 1 23 v1 rfl rfl) h1
  obtain ⟨x2, rfl, rfl, rfl, w2⟩ := open_int Ybaf.underlying3 (hval 2 3 v2 rfl rfl) h2
  obtain ⟨x3, rfl, rfl, rfl, w3⟩ := open_int Ybaf.underlying3 (hval 3 3 v3 rfl rfl) h3
  have hb1 := bounds_u16 w1
  have key : Calls Ybaf.prog 3 #[.slice a0 len0 cap0, .int .u16 x1, .int .i64 x2, .int .i64 x3] W fun e w' => e = .returned (.bool true) ∧ Below W.heap.size W w' := by
    obtain ⟨fuel, hf⟩ := h0
    rcases open_ints Ybaf.underlying22 Ybaf.underlying5 (by kernel_rfl) hf with ⟨hcs, _⟩ | ⟨x, l, c, zs, hcs, _, hl, hm, hz, _, hcell, hwz⟩
    · simp [Value.cells] at hcs
      obtain ⟨rfl, rfl, rfl⟩ := hcs
      exact law_any F.told none 0 0 [] x1 x2 x3 W hF (by omega) (by omega) (by omega) (fun k hk => by omega)
    · simp [Value.cells] at hcs
      obtain ⟨rfl, rfl, rfl⟩ := hcs
      by_cases hbig : 1024 < len0
      · exact law_big _ _ _ _ _ _ _ hbig (by omega)
      · refine law_any F.told (some x) len0 cap0 zs x1 x2 x3 W hF (by omega) (by omega) (by omega) (fun k hk => ?_)
        have hz' : zs.length = cap0 := by simpa using hz
        have hc := hcell k (by omega)
        have hr := range_u8 hwz k
        refine ⟨x, rfl, ?_, hc, ?_, ?_⟩
        · have hlt := World.block_lt_of_cell? W _ hc
          unfold Addr.add at hlt; split at hlt <;> exact hlt
        · simpa using hr.1
        · simpa using hr.2
  clear hA0 hval0
  refine key.mono fun e W' ⟨he, bel⟩ => ?_
  subst he
  exact ⟨_, rfl, _, _, _, [], _, [], hW', trodAll_mk1 (shut_bool Ybaf.underlying4 _), (trodAll_cons_mk (Below.trod laidOut (by kernel_rfl) (of_decide_eq_true (by kernel_rfl)) k0 bel lt0) (trodAll_cons_mk (shut_int Ybaf.underlying23 w1) (trodAll_cons_mk (shut_int Ybaf.underlying3 w2) (trodAll_cons_mk (shut_int Ybaf.underlying3 w3) trodAll_mk0)))), rfl, bel.frame _, fun h => by cases h⟩

theorem stops : Rows.lawS3951CEnterRow.stops = Ybaf.pinned.checked.prog.stops := by kernel_rfl
theorem stopKnobs : Ybaf.pinned.checked.prog.stopKnobs = [] := by kernel_rfl
theorem quiet (os : Os) : Stop.quiet Ybaf.pinned.checked.prog os := by
  intro k hk
  rw [stopKnobs] at hk
  cases hk

/-- THE STATEMENT. -/
theorem proved : Rows.LawS3951CEnterToldSaid :=
  Claim7.holds_of_told_any 3 Ybaf.f3 _ _ [] _ _ _ (by kernel_rfl) rfl rfl rfl laidOut (by kernel_rfl) rfl ⟨rfl, rfl, rfl, rfl, rfl, rfl, rfl⟩ rfl rfl (by kernel_rfl) (by kernel_rfl) Ybaf.func3 (by kernel_rfl)
    (of_decide_eq_true (by kernel_rfl)) (of_decide_eq_true (by kernel_rfl)) stops rfl stopKnobs.symm (by kernel_rfl)
    (by kernel_rfl) (by kernel_rfl) (by kernel_rfl) (by kernel_rfl) (by kernel_rfl) (by kernel_rfl) (by kernel_rfl) (by kernel_rfl) (by kernel_rfl) rfl (by kernel_rfl) rfl rfl
    rfl rfl
    rfl (by kernel_rfl) (by kernel_rfl) (by kernel_rfl) (by decide) (by kernel_rfl)
    (OpenClaim.moreEntering_of (by kernel_rfl) (by kernel_rfl) (by kernel_rfl) (by kernel_rfl) (by kernel_rfl) (by kernel_rfl) (by kernel_rfl) (by kernel_rfl) (by kernel_rfl) (by kernel_rfl))
    ⟨_, WideRow.started_initial, quiet _⟩
    (fun os started _ H enc _ => lifted os started H enc)
end Go.Proofs.YbulkccumFmt
