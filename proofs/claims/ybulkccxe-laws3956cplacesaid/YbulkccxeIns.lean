import Derived.Test.YbulkccxeIdx
import Derived.Lib.AppendZerosOnto
import Derived.Laws.NewBlocks
import Derived.Laws.IdiomCopy
import Derived.Deep.RegionLaw
import Derived.Shelf.Spec.SlicesInsert
namespace Go.Proofs.Ybulkccxe
open Go.RowKit Go.Lib

theorem info24 : (Yba.prog.info? 24).map (fun i => (i.zero, i.size, i.bytes)) = some (some (.pointer none), 1, 8) := by kernel_rfl

/-- The values that a row of pointers holds. -/
def vals (n : Nat) (p : Nat → Nat) : List Value := (List.range n).map fun i => .pointer (some ⟨p i, 0, none⟩)
theorem vals_length (n : Nat) (p : Nat → Nat) : (vals n p).length = n := by simp [vals]
theorem vals_get {n : Nat} {p : Nat → Nat} {j : Nat} {v : Value} (h : (vals n p)[j]? = some v) : j < n ∧ v = .pointer (some ⟨p j, 0, none⟩) := by
  simp only [vals, List.getElem?_map] at h
  by_cases hj : j < n
  · simp [hj] at h
    exact ⟨hj, h.symm⟩
  · simp [hj] at h
theorem vals_at (n : Nat) (p : Nat → Nat) {j : Nat} (h : j < n) : (vals n p)[j]? = some (.pointer (some ⟨p j, 0, none⟩)) := by
  simp [vals, h]
theorem vals_one (n : Nat) (p : Nat → Nat) : ∀ v ∈ vals n p, v.oneCell' = true := by
  intro v hv
  simp only [vals, List.mem_map] at hv
  obtain ⟨i, _, rfl⟩ := hv
  rfl
theorem PRow.vals {d n : Nat} {p : Nat → Nat} {w : World} (h : PRow d n p w) : ∀ j v, (Ybulkccxe.vals n p)[j]? = some v → w.cell? ⟨d, j, none⟩ = some v := by
  intro j v hj
  obtain ⟨h1, rfl⟩ := vals_get hj
  exact h j h1

/-- The row behind the insertion. -/
def insF (p q : Nat → Nat) (i m k : Nat) : Nat := if k < i then p k else if k < i + m then q (k - i) else p (k - m)

/-- A slice of N pointers to the blocks 'f 0', 'f 1' .. has come back; nothing old has turned. -/
def InsPost (b N : Nat) (f : Nat → Nat) (w : World) (e : Ending) (w' : World) : Prop :=
  ∃ h cap, e = .returned (.slice (some ⟨h, 0, none⟩) N cap) ∧ PRow h N f w' ∧ Below w.heap.size w w' ∧ (h = b ∨ w.heap.size ≤ h)

set_option maxHeartbeats 400000 in
theorem ins_none (b n i vb c : Nat) (p q : Nat → Nat) (w : World) (hi : i ≤ n) (hn : n ≤ 1024) (hp : PRow b n p w) :
    Calls Yba.prog 9 #[.slice (some ⟨b, 0, none⟩) n n, .int .i64 i, .slice (some ⟨vb, 0, none⟩) 0 c] w fun e w' => InsPost b (n + 0) (insF p q i 0) w e w' := by
  have HP : Hid (PRow b n p w) := hp
  clear hp
  have hend : PRow b n (insF p q i 0) w := by
    intro k hk
    rw [HP.out k hk]
    unfold insF
    by_cases h1 : k < i
    · rw [if_pos h1]
    · rw [if_neg h1, if_neg (by omega)]; rfl
  have HE : Hid (PRow b n (insF p q i 0) w) := hend
  clear hend HP
  have hi1 : (i : Int) ≤ (n : Int) := by omega
  by_cases hin : i = n
  · subst hin
    go_enter Yba.func9, Yba.ntmps9
    go_wp2
    go_ret
    exact ⟨b, i, rfl, HE.out, Below.refl _ _, Or.inl rfl⟩
  · have hne : ¬ n = i := fun h => hin h.symm
    go_enter Yba.func9, Yba.ntmps9
    go_wp2
    go_ret
    exact ⟨b, n, rfl, HE.out, Below.refl _ _, Or.inl rfl⟩

theorem row_end (n m : Nat) (p q : Nat → Nat) (Z : Array Value) (k : Nat) (hk : k < n + m) :
    ((vals n p).toArray ++ (vals m q).toArray ++ Z)[k]? = some (.pointer (some ⟨insF p q n m k, 0, none⟩)) := by
  have l1 := vals_length n p
  have l2 := vals_length m q
  rw [Array.getElem?_append_left (by simp [l1, l2]; omega)]
  unfold insF
  by_cases h1 : k < n
  · rw [Array.getElem?_append_left (by simp [l1]; omega), if_pos h1]
    simpa using vals_at n p h1
  · rw [Array.getElem?_append_right (by simp [l1]; omega), if_neg h1, if_pos hk]
    have := vals_at m q (j := k - n) (by omega)
    simpa [l1] using this

set_option maxHeartbeats 1000000 in
theorem ins_end (b n vb m : Nat) (p q : Nat → Nat) (w : World) (hn : n ≤ 1024) (hm0 : 0 < m) (hm : m ≤ 1024) (hp : PRow b n p w) (hq : PRow vb m q w) :
    Calls Yba.prog 9 #[.slice (some ⟨b, 0, none⟩) n n, .int .i64 n, .slice (some ⟨vb, 0, none⟩) m m] w fun e w' => InsPost b (n + m) (insF p q n m) w e w' := by
  obtain ⟨i0, hi0, hz0, hzs, hzb⟩ := info_parts info24
  have hrun := fun ty => run_append_grow (P := Yba.prog) w 23 ty 24 i0 _ Yba.underlying23 hi0 hz0 ⟨b, 0, none⟩ n n (vals n p) (by rw [vals_length, hzs]; omega) (fun j v hj => by rw [Addr.add_lit, Nat.zero_add]; exact hp.vals j v hj)
    ⟨vb, 0, none⟩ m m (vals m q) (by rw [vals_length, hzs]; omega) (fun j v hj => by rw [Addr.add_lit, Nat.zero_add]; exact hq.vals j v hj) (by omega) (by omega) (growslice_fits (by omega) (by rw [hzb]; omega))
  generalize Builtin.zeroCells (Value.pointer none).cells (grownCap w (n + m) n 24 - (n + m)) = Z at hrun
  generalize grownCap w (n + m) n 24 = G at hrun
  have hrow := row_end n m p q Z
  generalize (vals n p).toArray ++ (vals m q).toArray ++ Z = R at hrun hrow
  have HR : Hid (∀ ty, (Builtin.append_ #[23, 23] ty #[.slice (some ⟨b, 0, none⟩) n n, .slice (some ⟨vb, 0, none⟩) m m]).run Yba.prog w = .ok (.slice (some ⟨w.heap.size, 0, none⟩) (n + m) G) (w.drew.alloc (.cells R 24))) := hrun
  have HW : Hid (∀ k, k < n + m → R[k]? = some (.pointer (some ⟨insF p q n m k, 0, none⟩))) := hrow
  clear hp hq hrun hrow hi0 hz0 hzs hzb
  have hne : ((m : Int) == 0) = false := by simp; omega
  go_enter Yba.func9, Yba.ntmps9
  go_wp2_with (at_builtin; refine Lib.wpList_append_run _ rfl _ _ _ _ rfl _ _ rfl rfl _ _ (HR.out _) ?_)
  go_ret
  refine ⟨w.heap.size, G, rfl, ?_, ?_, Or.inr (Nat.le_refl _)⟩
  · intro k hk
    show (w.alloc (.cells R 24)).cell? ⟨w.heap.size, k, none⟩ = _
    rw [World.cell?_alloc_at (w := w) _ _ w.heap.size k rfl]
    exact HW.out k hk
  · exact ((Below.refl _ _).alloc (Nat.le_refl _) _).drew

theorem below_setCells {B b : Nat} {a : World} (hb : B ≤ b) : ∀ (vs : List Value) (o : Nat) {w : World}, Below B a w → Below B a (w.setCells b o vs)
  | [], _, _, h => h
  | v :: r, o, _, h => below_setCells hb r (o + 1) (h.setCell (p := ⟨b, o, none⟩) hb v)

set_option maxHeartbeats 4000000 in
set_option maxRecDepth 100000 in
theorem ins_mid (b n i vb m : Nat) (p q : Nat → Nat) (w : World) (hi : i < n) (hn : n ≤ 1024) (hm0 : 0 < m) (hm : m ≤ 1024) (hp : PRow b n p w) (hq : PRow vb m q w) :
    Calls Yba.prog 9 #[.slice (some ⟨b, 0, none⟩) n n, .int .i64 i, .slice (some ⟨vb, 0, none⟩) m m] w fun e w' => InsPost b (n + m) (insF p q i m) w e w' := by
  obtain ⟨i0, hi0, hz0, hzs, hzb⟩ := info_parts info24
  have hz1 : ¬ ((m : Int) = 0) := by omega
  have hz2 : ¬ ((i : Int) = (n : Int)) := by omega
  have hz3 : (n : Int) < (n : Int) + (m : Int) := by omega
  have hsz : (Yba.prog.info? 24).map (·.size) = some 1 := by rw [hi0]; simp [hzs]
  have hbw : b < w.heap.size := World.block_lt_of_cell? w _ (hp 0 (by omega))
  have hvw : vb < w.heap.size := World.block_lt_of_cell? w _ (hq 0 (by omega))
  have hkk : (n : Int) + (m : Int) - (i : Int) = ((n + m - i : Nat) : Int) := by omega
  have hik : i + (n + m - i) = n + m := by omega
  have hcl := vals_length n p
  have hvl := vals_length m q
  have hcs := hp.vals
  have hvs := hq.vals
  have h1c := vals_one n p
  have h1v := vals_one m q
  have hgc : ∀ k, k < n → (vals n p)[k]? = some (.pointer (some ⟨p k, 0, none⟩)) := fun k hk => vals_at n p hk
  have hgv : ∀ k, k < m → (vals m q)[k]? = some (.pointer (some ⟨q k, 0, none⟩)) := fun k hk => vals_at m q hk
  generalize vals n p = cs at *
  generalize vals m q = vs at *
  have hold : (Builtin.firstCells i0.size i (.slice (some ⟨b, 0, none⟩) i n)).run Yba.prog w.drew = .ok (cs.take i).toArray w.drew := by
    rw [hzs]
    exact run_firstCells_some w.drew 1 i ⟨b, 0, none⟩ i n (cs.take i) (by rw [List.length_take]; omega) (fun j v hj => by
      rw [Addr.add_lit, Nat.zero_add]
      rw [List.getElem?_take] at hj
      split at hj
      · exact hcs j v hj
      · cases hj)
  have hrz : ∀ ty, (Builtin.append_ #[23, 3] ty #[.slice (some ⟨b, 0, none⟩) i n, .int .i64 ((n : Int) + (m : Int) - (i : Int))]).run Yba.prog w =
      .ok (.slice (some ⟨w.heap.size, 0, none⟩) (n + m) (grownCap w (n + m) n 24)) (w.drew.alloc (.cells ((cs.take i).toArray ++ Builtin.zeroCells (Value.pointer none).cells (n + m - i) ++ Builtin.zeroCells (Value.pointer none).cells (grownCap w (n + m) n 24 - (n + m))) 24)) := fun ty => by
    have h := Lib.run_append_grow_zeros w 23 3 ty 24 i0 _ .i64 .i64 Yba.underlying23 Yba.underlying3 hi0 hz0 (some ⟨b, 0, none⟩) i n (cs.take i) hold (n + m - i) (by omega) (by omega) (by omega) (by omega) (by rw [hzb]; omega) (by rw [hzb, hik]; exact growslice_fits (by omega) (by omega))
    rw [hik] at h
    rw [hkk]
    exact h
  obtain ⟨G, hG⟩ : ∃ G, G = grownCap w (n + m) n 24 := ⟨_, rfl⟩
  obtain ⟨ROW, hROW⟩ : ∃ ROW : Array Value, ROW = (cs.take i).toArray ++ Builtin.zeroCells (Value.pointer none).cells (n + m - i) ++ Builtin.zeroCells (Value.pointer none).cells (G - (n + m)) := ⟨_, rfl⟩
  rw [← hG] at hrz
  rw [← hROW] at hrz
  have hRl : n + m ≤ ROW.size := by
    rw [hROW]
    simp [Builtin.zeroCells, Value.cells]
    omega
  have hR0 : ∀ k, k < i → ROW[k]? = some (.pointer (some ⟨p k, 0, none⟩)) := by
    intro k hk
    rw [hROW, Array.getElem?_append_left (by simp [Builtin.zeroCells, Value.cells]; omega), Array.getElem?_append_left (by simp; omega)]
    simp [hk, hgc k (by omega)]
  obtain ⟨W1, hW1⟩ : ∃ W1, W1 = w.drew.alloc (.cells ROW 24) := ⟨_, rfl⟩
  rw [← hW1] at hrz
  have hN : ∀ j, j < n + m → (W1.cell? ⟨w.heap.size, j, none⟩).isSome = true := fun j hj => by
    rw [hW1, World.cell?_alloc_at (w := w.drew) ROW _ w.heap.size j rfl, Array.getElem?_eq_getElem (by omega)]; rfl
  have hNf : ∀ j, W1.frozen? ⟨w.heap.size, j, none⟩ = false := fun j => by rw [hW1]; exact World.frozen?_alloc_at (w := w.drew) ROW _ w.heap.size j rfl
  have hOb : ∀ j v, w.cell? ⟨b, j, none⟩ = some v → W1.cell? ⟨b, j, none⟩ = some v := fun j v h => by rw [hW1, World.cell?_alloc_past (w := w.drew) _ b j hbw]; exact h
  have hOv : ∀ j v, w.cell? ⟨vb, j, none⟩ = some v → W1.cell? ⟨vb, j, none⟩ = some v := fun j v h => by rw [hW1, World.cell?_alloc_past (w := w.drew) _ vb j hvw]; exact h
  have hcpA : ∀ (W : World), (∀ x, W.cell? x = W1.cell? x) → (∀ x, W.frozen? x = W1.frozen? x) → ∀ ty dc, (Builtin.copy_ #[23, 23] ty #[.slice (some ⟨w.heap.size, i, none⟩) (n + m - i) dc, .slice (some ⟨vb, 0, none⟩) m m]).run Yba.prog W = .ok (goInt vs.length) (W.setCells w.heap.size i vs) := fun W hWc hWf ty dc =>
    run_copy_cells W _ _ ty 24 w.heap.size i (n + m - i) dc ⟨vb, 0, none⟩ m m vs Yba.underlying23 hsz (by rw [hvl]; simp only [Nat.min_def]; split <;> omega)
      (fun j v hj => by rw [Addr.add_lit, hWc, Nat.zero_add]; exact hOv _ v (hvs j v hj))
      (fun j hj => by rw [hWc]; exact hN _ (by omega)) (fun j hj => by rw [hWf]; exact hNf _) h1v
  have hGn : n + m ≤ G := by rw [hG]; exact grownCap_ge w _ _ _
  have hG63 : G ≤ 9223372036854775807 := by
    have := grownCap_le_maxLen w (n + m) n 24 (by unfold maxLen; omega)
    rw [← hG] at this
    unfold maxLen at this
    omega
  have hGi : ¬ (G = i) := by omega
  have hGim : ¬ (G = i + m) := by omega
  have hci : ¬ (n = i) := by omega
  have hbN : b ≠ w.heap.size := by omega
  have hdl : (cs.drop i).length = n - i := by rw [List.length_drop, hcl]
  have hcpB : ∀ (W : World), (∀ x, W.cell? x = (W1.setCells w.heap.size i vs).cell? x) → (∀ x, W.frozen? x = (W1.setCells w.heap.size i vs).frozen? x) → ∀ ty dc sc, (Builtin.copy_ #[23, 23] ty #[.slice (some ⟨w.heap.size, i + m, none⟩) (n + m - (i + m)) dc, .slice (some ⟨b, i, none⟩) (n - i) sc]).run Yba.prog W = .ok (goInt (cs.drop i).length) (W.setCells w.heap.size (i + m) (cs.drop i)) := fun W hWc hWf ty dc sc =>
    run_copy_cells W _ _ ty 24 w.heap.size (i + m) (n + m - (i + m)) dc ⟨b, i, none⟩ (n - i) sc (cs.drop i) Yba.underlying23 hsz (by rw [hdl]; simp only [Nat.min_def]; split <;> omega)
      (fun j v hj => by
        rw [Addr.add_lit, hWc, World.cell?_setCells_out _ _ _ _ _ (fun h _ => absurd h hbN)]
        exact hOb _ v (hcs (i + j) v (by rwa [List.getElem?_drop] at hj)))
      (fun j hj => by rw [hWc]; exact isSome_setCells _ _ _ _ (fun t ht => hN _ (by omega)) _ (hN _ (by omega)))
      (fun j hj => by rw [hWf, World.frozen?_setCells]; exact hNf _) (fun v hv => h1c v (List.mem_of_mem_drop hv))
  have HEnd : Hid (∀ (W : World), (∀ x, W.cell? x = ((W1.setCells w.heap.size i vs).setCells w.heap.size (i + m) (cs.drop i)).cell? x) → PRow w.heap.size (n + m) (insF p q i m) W) := by
    intro W hWx k hk
    rw [hWx]
    unfold insF
    by_cases c2 : i + m ≤ k
    · rw [if_neg (by omega), if_neg (by omega)]
      have := World.cell?_setCells_in w.heap.size (cs.drop i) (i + m) (W1.setCells w.heap.size i vs) (fun j hj => isSome_setCells _ _ _ _ (fun t ht => hN _ (by omega)) _ (hN _ (by omega))) (k - (i + m)) (by omega)
      rw [show i + m + (k - (i + m)) = k by omega] at this
      rw [this]
      have hx := hgc (k - m) (by omega)
      rw [List.getElem_drop]
      rw [List.getElem?_eq_getElem (by omega)] at hx
      rw [← hx]
      congr 2
      omega
    · rw [World.cell?_setCells_out _ _ _ _ _ (fun _ _ => Or.inl (by show k < i + m; omega))]
      by_cases c1 : k < i
      · rw [if_pos c1, World.cell?_setCells_out _ _ _ _ _ (fun _ _ => Or.inl (by show k < i; omega)), hW1, World.cell?_alloc_at (w := w.drew) ROW _ w.heap.size k rfl]
        exact hR0 k c1
      · rw [if_neg c1, if_pos (by omega)]
        have := World.cell?_setCells_in w.heap.size vs i W1 (fun j hj => hN _ (by omega)) (k - i) (by omega)
        rw [show i + (k - i) = k by omega] at this
        rw [this]
        have hx := hgv (k - i) (by omega)
        rw [List.getElem?_eq_getElem (by omega)] at hx
        exact hx
  subst hW1
  have hE1 : ∀ x, ((w.alloc (.cells ROW 24)).drew).cell? x = (w.drew.alloc (.cells ROW 24)).cell? x := fun x => rfl
  have hE2 : ∀ x, ((w.alloc (.cells ROW 24)).drew).frozen? x = (w.drew.alloc (.cells ROW 24)).frozen? x := fun x => rfl
  have hF1 : ∀ x, (((w.alloc (.cells ROW 24)).drew.setCells w.heap.size i vs).drew).cell? x = ((w.drew.alloc (.cells ROW 24)).setCells w.heap.size i vs).cell? x := fun x => rfl
  have hF2 : ∀ x, (((w.alloc (.cells ROW 24)).drew.setCells w.heap.size i vs).drew).frozen? x = ((w.drew.alloc (.cells ROW 24)).setCells w.heap.size i vs).frozen? x := fun x => rfl
  have hw1 : IntKind.i64.wrap ((i : Int) + (m : Int)) = (i : Int) + (m : Int) := by rw [IntKind.wrap_i64]; omega
  have hb1 : (0 : Int) ≤ (i : Int) + (m : Int) := by omega
  have hin : i ≤ n := by omega
  have htn : ((i : Int) + (m : Int)).toNat = i + m := by omega
  have hb3 : (i : Int) ≤ (n : Int) := by omega
  clear hkk hik hold hROW hG hRl hp hq hcs hvs hgc hgv h1c h1v hR0 hi0 hz0 hzs hzb hsz
  go_enter Yba.func9, Yba.ntmps9
  go_wp2_with (first
    | (at_builtin; refine Lib.wpList_append_run _ rfl _ _ _ _ rfl _ _ rfl rfl _ _ (hrz _) ?_)
    | (at_builtin; refine wpList_copy_runI _ rfl _ _ 23 23 rfl _ _ rfl rfl (hcpA _ hE1 hE2 _ _) ?_)
    | (at_builtin; refine wpList_copy_runI _ rfl _ _ 23 23 rfl _ _ rfl rfl (hcpB _ (fun _ => rfl) (fun _ => rfl) _ _ _) ?_))
  go_region_law (refine step_copy_runI rfl _ _ 23 23 rfl (.slice (some ⟨w.heap.size, i + m, none⟩) (n + m - (i + m)) (G - (i + m))) (.slice (some ⟨b, i, none⟩) (n - i) (n - i)) (by simp [Act.eval, Act.put]) (by simp [Act.eval, Act.put]) (hcpB _ hF1 hF2 3 (G - (i + m)) (n - i)) ?_)
  go_wp2
  go_ret
  refine ⟨w.heap.size, G, rfl, HEnd.out _ ?_, ?_, Or.inr (Nat.le_refl _)⟩
  · intro x
    rw [← drew_setCells]
    rfl
  · exact below_setCells (Nat.le_refl _) _ _ (below_setCells (Nat.le_refl _) _ _ (((Below.refl _ _).alloc (Nat.le_refl _) _).drew)).drew

/-- slices.Insert at a slice with no spare room. -/
theorem ins_any (b n i vb m : Nat) (p q : Nat → Nat) (w : World) (hi : i ≤ n) (hn : n ≤ 1024) (hm : m ≤ 1024) (hp : PRow b n p w) (hq : PRow vb m q w) :
    Calls Yba.prog 9 #[.slice (some ⟨b, 0, none⟩) n n, .int .i64 i, .slice (some ⟨vb, 0, none⟩) m m] w fun e w' => InsPost b (n + m) (insF p q i m) w e w' := by
  by_cases h0 : m = 0
  · subst h0
    exact ins_none b n i vb 0 p q w hi hn hp
  · by_cases h1 : i = n
    · subst h1
      exact ins_end b i vb m p q w hn (by omega) hm hp hq
    · exact ins_mid b n i vb m p q w (by omega) hn (by omega) hm hp hq

/-! ### slices.Clone -/

set_option maxHeartbeats 400000 in
theorem clone_none (b : Nat) (p : Nat → Nat) (w : World) :
    Calls Yba.prog 5 #[.slice (some ⟨b, 0, none⟩) 0 0] w fun e w' => InsPost b 0 p w e w' := by
  have q23 : ∀ (w : World) (a : Option Addr) (n c n' c' : Nat), (binOp .eql 23 (.slice a n c) (.slice none n' c')).run Yba.prog w = .ok (.bool a.isNone) w := fun w a n c n' c' => Lib.run_eql_slice_nil w _ _ a n c n' c' Yba.underlying23
  go_enter Yba.func5, Yba.ntmps5
  go_wp2
  go_ret
  exact ⟨w.heap.size, 0, rfl, fun k hk => by omega, (Below.refl _ _).alloc (Nat.le_refl _) _, Or.inr (Nat.le_refl _)⟩

theorem row_clone (n : Nat) (p : Nat → Nat) (Z : Array Value) (k : Nat) (hk : k < n) :
    ((([] : List Value)).toArray ++ (vals n p).toArray ++ Z)[k]? = some (.pointer (some ⟨p k, 0, none⟩)) := by
  have l1 := vals_length n p
  rw [Array.getElem?_append_left (by simp [l1]; omega)]
  simpa using vals_at n p hk

set_option maxHeartbeats 1000000 in
theorem clone_some (b n : Nat) (p : Nat → Nat) (w : World) (hn0 : 0 < n) (hn : n ≤ 1024) (hp : PRow b n p w) :
    Calls Yba.prog 5 #[.slice (some ⟨b, 0, none⟩) n n] w fun e w' => InsPost b n p w e w' := by
  have q23 : ∀ (w : World) (a : Option Addr) (n c n' c' : Nat), (binOp .eql 23 (.slice a n c) (.slice none n' c')).run Yba.prog w = .ok (.bool a.isNone) w := fun w a n c n' c' => Lib.run_eql_slice_nil w _ _ a n c n' c' Yba.underlying23
  obtain ⟨i0, hi0, hz0, hzs, hzb⟩ := info_parts info24
  have hbw : b < w.heap.size := World.block_lt_of_cell? w _ (hp 0 hn0)
  have hrun := fun ty => run_append_grow (P := Yba.prog) (w.alloc (.cells #[] 24)) 23 ty 24 i0 _ Yba.underlying23 hi0 hz0 ⟨w.heap.size, 0, none⟩ 0 0 [] (by simp) (fun j v hj => by simp at hj)
    ⟨b, 0, none⟩ n n (vals n p) (by rw [vals_length, hzs]; omega) (fun j v hj => by rw [Addr.add_lit, Nat.zero_add, World.cell?_alloc_past _ b j hbw]; exact hp.vals j v hj) (by omega) (by omega) (growslice_fits (by omega) (by rw [hzb]; omega))
  generalize Builtin.zeroCells (Value.pointer none).cells (grownCap (w.alloc (.cells #[] 24)) (0 + n) 0 24 - (0 + n)) = Z at hrun
  generalize grownCap (w.alloc (.cells #[] 24)) (0 + n) 0 24 = G at hrun
  have hrow := row_clone n p Z
  generalize (([] : List Value)).toArray ++ (vals n p).toArray ++ Z = R at hrun hrow
  have HR : Hid (∀ ty, (Builtin.append_ #[23, 23] ty #[.slice (some ⟨w.heap.size, 0, none⟩) 0 0, .slice (some ⟨b, 0, none⟩) n n]).run Yba.prog (w.alloc (.cells #[] 24)) = .ok (.slice (some ⟨w.heap.size + 1, 0, none⟩) n G) ((w.alloc (.cells #[] 24)).drew.alloc (.cells R 24))) := by
    intro ty
    have h := hrun ty
    rw [Nat.zero_add] at h
    rw [h]
    simp
  have HW : Hid (∀ k, k < n → R[k]? = some (.pointer (some ⟨p k, 0, none⟩))) := hrow
  clear hp hrun hrow hi0 hz0 hzs hzb
  go_enter Yba.func5, Yba.ntmps5
  go_wp2_with (at_builtin; refine Lib.wpList_append_run _ rfl _ _ _ _ rfl _ _ rfl rfl _ _ (HR.out _) ?_)
  go_ret
  refine ⟨w.heap.size + 1, G, rfl, ?_, ?_, Or.inr (Nat.le_succ _)⟩
  · intro k hk
    show ((w.alloc (.cells #[] 24)).alloc (.cells R 24)).cell? ⟨w.heap.size + 1, k, none⟩ = _
    rw [World.cell?_alloc_at (w := w.alloc (.cells #[] 24)) _ _ (w.heap.size + 1) k (by simp)]
    exact HW.out k hk
  · exact (((Below.refl _ _).alloc (Nat.le_refl _) _).alloc (by simp) _).drew

/-- slices.Clone at a slice with no spare room. -/
theorem clone_any (b n : Nat) (p : Nat → Nat) (w : World) (hn : n ≤ 1024) (hp : PRow b n p w) :
    Calls Yba.prog 5 #[.slice (some ⟨b, 0, none⟩) n n] w fun e w' => InsPost b n p w e w' := by
  by_cases h0 : n = 0
  · subst h0
    exact clone_none b p w
  · exact clone_some b n p w (by omega) hn hp

end Go.Proofs.Ybulkccxe
