import Derived.Test.YbulkccxeIns
import Derived.LaidEql
namespace Go.Proofs.Ybulkccxe
open Go.RowKit

/-- The first k statements that the law makes: each in a block of its own, from 'lo' on, its keyword that of the kind, its line its place. -/
structure Stm (k : Nat) (p : Nat → Nat) (ks : Nat → Int) (lo : Nat) (w : World) : Prop where
  at_ : ∀ j, j < k → lo ≤ p j ∧ p j < w.heap.size
  kw : ∀ j, j < k → w.cell? ⟨p j, 0, none⟩ = some (.string (kwS (ks j)))
  line : ∀ j, j < k → w.cell? ⟨p j, 2, none⟩ = some (.int .i64 j)

/-- Block B is a row of n pointers of the call's own, of which k have been laid. -/
def Laid (B n k : Nat) (p : Nat → Nat) (w : World) : Prop := w.rowIs B 24 n (fun j => if j < k then .pointer (some ⟨p j, 0, none⟩) else .pointer none)

theorem Laid.made (w : World) (n : Nat) (p : Nat → Nat) : Laid w.heap.size n 0 p (w.alloc (.cells (madeCells #[.pointer none] n) 24)) :=
  World.rowIs.congr (World.rowIs_made w _ n 24) (fun i _ => by rw [if_neg (by omega)])
theorem Laid.prow {B n : Nat} {p : Nat → Nat} {w : World} (h : Laid B n n p w) : PRow B n p w := fun i hi => by
  have := World.rowIs.cell h hi
  rw [this, if_pos hi]
theorem Laid.kept {B n k : Nat} {p : Nat → Nat} {w w' : World} {C : Nat} (h : Laid B n k p w) (hb : Below C w w') (hC : B < C) : Laid B n k p w' := World.rowIs.of_block h (hb.block B hC)
theorem PRow.kept {B n : Nat} {p : Nat → Nat} {w w' : World} {C : Nat} (h : PRow B n p w) (hb : Below C w w') (hC : B < C) : PRow B n p w' := fun i hi => (hb.cell (p := ⟨B, i, none⟩) hC).trans (h i hi)

theorem PRow.kept' {B n : Nat} {p : Nat → Nat} {w w' : World} (h : PRow B n p w) (hb : Below w.heap.size w w') : PRow B n p w' := fun i hi => (hb.cell (p := ⟨B, i, none⟩) (World.block_lt_of_cell? w _ (h i hi))).trans (h i hi)

/-- The function with one place turned. -/
def upd (p : Nat → Nat) (k v : Nat) : Nat → Nat := fun j => if j = k then v else p j
theorem upd_lt (p : Nat → Nat) {k v j : Nat} (h : j < k) : upd p k v j = p j := by unfold upd; rw [if_neg (by omega)]
theorem upd_at (p : Nat → Nat) (k v : Nat) : upd p k v k = v := by unfold upd; rw [if_pos rfl]

/-- One more statement: a new block, and the pointer to it in the row. -/
theorem Laid.next {B n k : Nat} {p : Nat → Nat} {w : World} (h : Laid B n k p w) (c : Obj) :
    Laid B n (k + 1) (upd p k w.heap.size) ((w.alloc c).setCell ⟨B, k, none⟩ (.pointer (some ⟨w.heap.size, 0, none⟩))) := by
  have h1 := World.rowIs.set (World.rowIs.alloc h c) k (.pointer (some ⟨w.heap.size, 0, none⟩))
  refine World.rowIs.congr h1 (fun i _ => ?_)
  show (if i = k then Value.pointer (some ⟨w.heap.size, 0, none⟩) else if i < k then .pointer (some ⟨p i, 0, none⟩) else .pointer none) = if i < k + 1 then .pointer (some ⟨upd p k w.heap.size i, 0, none⟩) else .pointer none
  by_cases e : i = k
  · subst e
    rw [if_pos rfl, if_pos (by omega), upd_at]
  · rw [if_neg e]
    by_cases e2 : i < k
    · rw [if_pos e2, if_pos (by omega), upd_lt p e2]
    · rw [if_neg e2, if_neg (by omega)]

theorem Stm.next {B k : Nat} {p : Nat → Nat} {ks : Nat → Int} {w : World} (h : Stm k p ks (B + 1) w) (hB : B < w.heap.size) (x1 x3 x4 v : Value) :
    Stm (k + 1) (upd p k w.heap.size) ks (B + 1) ((w.alloc (.cells #[.string (kwS (ks k)), x1, .int .i64 k, x3, x4] 27)).setCell ⟨B, k, none⟩ v) := by
  have hne : ∀ a o, B < a → (⟨B, k, none⟩ : Addr) ≠ ⟨a, o, none⟩ := fun a o ha e => by injection e with e; omega
  refine ⟨fun j hj => ?_, fun j hj => ?_, fun j hj => ?_⟩
  · by_cases e : j = k
    · subst e
      rw [upd_at]
      simp [World.setCell]
      omega
    · rw [upd_lt p (by omega)]
      have := h.at_ j (by omega)
      simp [World.setCell]
      omega
  · by_cases e : j = k
    · subst e
      rw [upd_at, World.cell?_setCell_other _ _ _ _ (hne _ _ hB), World.cell?_alloc_at (w := w) _ _ w.heap.size 0 rfl]
      rfl
    · have hp := h.at_ j (by omega)
      rw [upd_lt p (by omega), World.cell?_setCell_other _ _ _ _ (hne _ _ (by omega)), World.cell?_alloc_past _ _ _ hp.2]
      exact h.kw j (by omega)
  · by_cases e : j = k
    · subst e
      rw [upd_at, World.cell?_setCell_other _ _ _ _ (hne _ _ hB), World.cell?_alloc_at (w := w) _ _ w.heap.size 2 rfl]
      rfl
    · have hp := h.at_ j (by omega)
      rw [upd_lt p (by omega), World.cell?_setCell_other _ _ _ _ (hne _ _ (by omega)), World.cell?_alloc_past _ _ _ hp.2]
      exact h.line j (by omega)

/-- The two, as the walk writes the world. -/
theorem Laid.next' {B n k : Nat} {p : Nat → Nat} {w : World} (h : Laid B n k p w) (c : Obj) :
    Laid B n (k + 1) (upd p k w.heap.size) ((w.setCell ⟨B, k, none⟩ (.pointer (some ⟨w.heap.size, 0, none⟩))).alloc c) := by
  rw [← World.setCell_alloc_past c B k _ (World.rowIs.lt h)]
  exact h.next c
theorem Stm.next' {B k : Nat} {p : Nat → Nat} {ks : Nat → Int} {w : World} (h : Stm k p ks (B + 1) w) (hB : B < w.heap.size) (x1 x3 x4 v : Value) :
    Stm (k + 1) (upd p k w.heap.size) ks (B + 1) ((w.setCell ⟨B, k, none⟩ v).alloc (.cells #[.string (kwS (ks k)), x1, .int .i64 k, x3, x4] 27)) := by
  rw [← World.setCell_alloc_past _ B k _ hB]
  exact h.next hB x1 x3 x4 v

theorem Stm.kept {k : Nat} {p : Nat → Nat} {ks : Nat → Int} {lo C : Nat} {w w' : World} (h : Stm k p ks lo w) (hb : Below C w w') (hC : ∀ j, j < k → p j < C) : Stm k p ks lo w' :=
  ⟨fun j hj => ⟨(h.at_ j hj).1, Nat.lt_of_lt_of_le (h.at_ j hj).2 hb.size⟩, fun j hj => (hb.cell (p := ⟨p j, 0, none⟩) (hC j hj)).trans (h.kw j hj), fun j hj => (hb.cell (p := ⟨p j, 2, none⟩) (hC j hj)).trans (h.line j hj)⟩
theorem Stm.kept' {k : Nat} {p : Nat → Nat} {ks : Nat → Int} {lo : Nat} {w w' : World} (h : Stm k p ks lo w) (hb : Below w.heap.size w w') : Stm k p ks lo w' := h.kept hb (fun j hj => (h.at_ j hj).2)
theorem Stm.kws {k : Nat} {p : Nat → Nat} {ks : Nat → Int} {lo : Nat} {w : World} (h : Stm k p ks lo w) : Kws k p ks w := h.kw

theorem info27 : (Yba.prog.info? 27).isSome = true := by kernel_rfl
theorem eqIn24 (d : Nat) (w : World) (a : Addr) : (Op.equalIn (d + 1) 24 (.pointer (some a)) (.pointer (some a))).run Yba.prog w = .ok true w := by
  obtain ⟨i, hi⟩ := Option.isSome_iff_exists.1 info27
  simp [Op.equalIn, run_underlying Yba.underlying24, sizeOf, typeInfo, hi, run_sameAddr_same]
/-- A pointer is not unlike itself. -/
theorem neq24 (w : World) (a : Addr) : (binOp .neq 24 (.pointer (some a)) (.pointer (some a))).run Yba.prog w = .ok (.bool false) w := by
  simp only [binOp]
  simp [Op.equal, Op.maxDepth, eqIn24 9999 w a]

/-- All that the law's last three loops read. -/
structure FinW (w : World) (n m : Nat) (ks : Nat → Int) (p q : Nat → Nat) (o B2 b1 b2 b3 cap3 i : Nat) (wr : World) : Prop where
  bel : Below w.heap.size w wr
  stm : Stm n p ks (w.heap.size + 1) wr
  r0 : PRow B2 m q wr
  r1 : PRow b1 n p wr
  r2 : PRow b2 m q wr
  r3 : PRow b3 (n + m) (insF p q i m) wr
  o3 : wr.cell? ⟨o, 3, none⟩ = some (.slice (some ⟨b3, 0, none⟩) (n + m) cap3)
  o5 : wr.cell? ⟨o + 1, 5, none⟩ = some (.slice (some ⟨B2, 0, none⟩) m m)
theorem FinW.drewN {w : World} {n m : Nat} {ks : Nat → Int} {p q : Nat → Nat} {o B2 b1 b2 b3 cap3 i : Nat} {wr : World} (h : FinW w n m ks p q o B2 b1 b2 b3 cap3 i wr) (nq : Nat) : FinW w n m ks p q o B2 b1 b2 b3 cap3 i (wr.drewN nq) :=
  ⟨below_drewN h.bel _, ⟨h.stm.at_, h.stm.kw, h.stm.line⟩, h.r0, h.r1, h.r2, h.r3, h.o3, h.o5⟩

end Go.Proofs.Ybulkccxe
