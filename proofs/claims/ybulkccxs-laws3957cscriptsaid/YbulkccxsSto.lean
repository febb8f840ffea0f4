import Derived.Test.YbulkccxsRows
import Derived.WalkKit
import Derived.WalkSpells
import Derived.WalkLawsBesides
import Derived.Deep.QuietTactic
import Derived.BigQuiet
import Derived.Deep.OwnRows
import Derived.Lib.AppendZeros
namespace Go.Proofs.Ybulkccxs
open Go.RowKit

/-- A slice value over the storage 'ao' (none: nil). -/
def sl (ao : Option Nat) (n c : Nat) : Value := match ao with
  | none => .slice none 0 0
  | some g => .slice (some ⟨g, 0, none⟩) n c

/-- THE STORAGE: none, no cell; or block g, of the call's own, of c cells, whose first cells are xs. -/
def Sto (w : World) (base : Nat) (ao : Option Nat) (c : Nat) (xs : List Value) : Prop :=
  (ao = none ∧ c = 0 ∧ xs = []) ∨
  ∃ g cur, ao = some g ∧ base ≤ g ∧ w.heap[g]? = some (.cells cur 3 (0, 0)) ∧ cur.size = c ∧ xs.length ≤ c ∧ c ≤ maxLen ∧ cur.toList.take xs.length = xs

theorem Sto.nil (w : World) (base : Nat) : Sto w base none 0 [] := Or.inl ⟨rfl, rfl, rfl⟩
theorem Sto.len {w : World} {base : Nat} {ao : Option Nat} {c : Nat} {xs : List Value} (h : Sto w base ao c xs) : xs.length ≤ c := by
  rcases h with ⟨_, rfl, rfl⟩ | ⟨g, cur, _, _, _, _, hl, _⟩
  · simp
  · exact hl
theorem Sto.cmax {w : World} {base : Nat} {ao : Option Nat} {c : Nat} {xs : List Value} (h : Sto w base ao c xs) : c ≤ maxLen := by
  rcases h with ⟨_, rfl, rfl⟩ | ⟨g, cur, _, _, _, _, _, hl, _⟩
  · exact Nat.zero_le _
  · exact hl
theorem Sto.lt {w : World} {base : Nat} {ao : Option Nat} {c : Nat} {xs : List Value} (h : Sto w base ao c xs) : ∀ g, ao = some g → base ≤ g ∧ g < w.heap.size := by
  intro g hg
  rcases h with ⟨rfl, _, _⟩ | ⟨g', cur, rfl, hb, hh, _⟩
  · cases hg
  · injection hg with hg
    subst hg
    obtain ⟨hlt, _⟩ := Array.getElem?_eq_some_iff.1 hh
    exact ⟨hb, hlt⟩
theorem Sto.cell {w : World} {base : Nat} {g c : Nat} {xs : List Value} (h : Sto w base (some g) c xs) : ∀ j u, xs[j]? = some u → w.cell? ⟨g, j, none⟩ = some u := by
  intro j u hj
  rcases h with ⟨hn, _, _⟩ | ⟨g', cur, hg, _, hh, hs, hl, _, ht⟩
  · cases hn
  · injection hg with hg
    subst hg
    simp only [World.cell?, hh]
    have hlt : j < xs.length := (List.getElem?_eq_some_iff.1 hj).1
    rw [← ht, List.getElem?_take, if_pos hlt] at hj
    simpa using hj
theorem Sto.kept {w w' : World} {base : Nat} {ao : Option Nat} {c : Nat} {xs : List Value} (h : Sto w base ao c xs) (hk : ∀ g, ao = some g → w'.heap[g]? = w.heap[g]?) : Sto w' base ao c xs := by
  rcases h with h | ⟨g, cur, rfl, hb, hh, r⟩
  · exact Or.inl h
  · exact Or.inr ⟨g, cur, rfl, hb, (hk g rfl).trans hh, r⟩
/-- Emptied: the storage is kept. -/
theorem Sto.empty {w : World} {base : Nat} {ao : Option Nat} {c : Nat} {xs : List Value} (h : Sto w base ao c xs) : Sto w base ao c [] := by
  rcases h with ⟨h1, h2, _⟩ | ⟨g, cur, rfl, hb, hh, hs, _, hm, _⟩
  · exact Or.inl ⟨h1, h2, rfl⟩
  · exact Or.inr ⟨g, cur, rfl, hb, hh, hs, Nat.zero_le _, hm, by simp⟩
theorem Sto.owns {w : World} {base : Nat} {ao : Option Nat} {c : Nat} {xs : List Value} (h : Sto w base ao c xs) : w.ownsRow base 3 1 (sl ao xs.length c) xs.length xs := by
  refine ⟨by omega, ?_⟩
  rcases h with ⟨rfl, rfl, rfl⟩ | ⟨g, cur, rfl, hb, hh, hs, hl, hm, ht⟩
  · exact Or.inl ⟨rfl, rfl⟩
  · exact Or.inr ⟨g, c, cur, rfl, hb, hh, hl, hm, by omega, by rw [Nat.mul_one]; exact ht⟩

theorem info3 : (Yba.prog.info? 3).map (fun i => (i.zero, i.size, i.bytes)) = some (some (.int .i64 0), 1, 8) := by kernel_rfl

/-- append ONTO SUCH A STORAGE: the same one, with the same capacity; or a new one of a greater capacity. -/
theorem run_app (w : World) (base : Nat) (ao : Option Nat) (c : Nat) (xs : List Value) (h : Sto w base ao c xs) (ty : TypeId)
    (a : Addr) (m d : Nat) (news : List Value) (hl : news.length = m) (hnews : ∀ j u, news[j]? = some u → w.cell? (a.add j) = some u) (h1 : ∀ u ∈ news, u.oneCell' = true)
    (hm : 0 < m) (hb : xs.length + m ≤ 100000) (hbase : base ≤ w.heap.size) :
    ∃ ao' c' w', (Builtin.append_ #[23, 23] ty #[sl ao xs.length c, .slice (some a) m d]).run Yba.prog w = .ok (sl ao' (xs.length + m) c') w' ∧ Sto w' base ao' c' (xs ++ news) ∧ w.grownBy w' ao ∧
      ((ao' = ao ∧ c' = c) ∨ (ao' = some w.heap.size ∧ c < c')) := by
  obtain ⟨i, hi, hz, hs, hby⟩ := info_parts info3
  have h63 : xs.length + m ≤ maxLen := by unfold maxLen; omega
  have grown : ∀ old, old < xs.length + m → ∀ row,
      Sto (w.drew.alloc (.cells (xs.toArray ++ news.toArray ++ Builtin.zeroCells (Value.int .i64 0).cells (grownCap w (xs.length + m) old 3 - (xs.length + m))) 3)) base (some w.heap.size) (grownCap w (xs.length + m) old 3) (xs ++ news) ∧
      w.grownBy (w.drew.alloc (.cells (xs.toArray ++ news.toArray ++ Builtin.zeroCells (Value.int .i64 0).cells (grownCap w (xs.length + m) old 3 - (xs.length + m))) 3)) row ∧ old < grownCap w (xs.length + m) old 3 := by
    intro old ho row
    have hge := grownCap_ge w (xs.length + m) old 3
    have hcm := grownCap_le_maxLen w (xs.length + m) old 3 h63
    refine ⟨Or.inr ⟨w.heap.size, _, rfl, hbase, heap_alloc_new w.drew _, ?_, ?_, hcm, ?_⟩, ⟨rfl, rfl, rfl, by simp, fun k hk _ => heap_alloc_old w.drew _ hk⟩, by omega⟩
    · simp only [Array.size_append, List.size_toArray, size_zeroCells, hl, Value.cells]
      simp
      omega
    · rw [List.length_append, hl]; exact hge
    · simp only [Array.toList_append, List.append_assoc]
      rw [← List.append_assoc]
      exact List.take_left
  rcases h with ⟨rfl, rfl, rfl⟩ | ⟨g, cur, rfl, hbg, hg, hcs, hnc, hcm, htake⟩
  · have hr := run_append_nil (P := Yba.prog) w 23 ty 3 i _ Yba.underlying23 hi hz a m d news (by rw [hl, hs]; omega) hnews hm (by omega) (by rw [hby]; omega)
    have hgr := grown 0 (by simp; omega) none
    simp only [List.length_nil, Nat.zero_add, List.nil_append, Array.empty_append] at hgr ⊢
    exact ⟨some w.heap.size, _, _, hr, hgr.1, hgr.2.1, Or.inr ⟨rfl, hgr.2.2⟩⟩
  · by_cases hroom : xs.length + m ≤ c
    · have hr := run_append_room (P := Yba.prog) w 23 ty 3 i Yba.underlying23 hi g xs.length c cur hg a m d news (by rw [hl, hs]; omega) hnews h1 hroom (by rw [hs]; omega)
      refine ⟨some g, c, _, hr, Or.inr ⟨g, _, rfl, hbg, setRow_heap w g cur _ 3 _ hg, ?_, ?_, hcm, ?_⟩, ⟨rfl, rfl, rfl, by simp, fun k _ hk => setRow_other w g k _ (fun e => hk (by rw [e]))⟩, Or.inl ⟨rfl, rfl⟩⟩
      · simp only [List.size_toArray, List.length_append, List.length_take, List.length_drop, Array.length_toList, hs]
        omega
      · rw [List.length_append, hl]; exact hroom
      · rw [hs, Nat.mul_one, htake]
        exact List.take_left
    · have holds : ∀ j u, xs[j]? = some u → w.cell? ((⟨g, 0, none⟩ : Addr).add j) = some u := fun j u hj => by
        rw [Addr.add_lit, Nat.zero_add]
        exact Sto.cell (Or.inr ⟨g, cur, rfl, hbg, hg, hcs, hnc, hcm, htake⟩) j u hj
      have hr := run_append_grow (P := Yba.prog) w 23 ty 3 i _ Yba.underlying23 hi hz ⟨g, 0, none⟩ xs.length c xs (by rw [hs]; omega) holds a m d news (by rw [hl, hs]; omega) hnews (by omega) (by omega) (growslice_fits (by omega) (by rw [hby]; omega))
      have hgr := grown c (by omega) (some g)
      exact ⟨some w.heap.size, _, _, hr, hgr.1, hgr.2.1, Or.inr ⟨rfl, hgr.2.2⟩⟩

end Go.Proofs.Ybulkccxs
