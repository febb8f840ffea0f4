import Derived.Test.YbulkccxsEq
namespace Go.Proofs.Ybulkccxs
open Go.RowKit

/-- 'append' over such a storage, for the walk. -/
theorem wpList_app (w : World) {ops : Array Oper} {rest : List Oper} {o : Oper} {a : Act} {Q : Exit → Act → World → Prop} (hgd : o.guard = none) (s x : Operand)
    (ho : o.op = .call { callee := .builtin .append, args := #[s, x], argTypes := #[23, 23] })
    (base : Nat) (ao : Option Nat) (c n : Nat) (xs : List Value) (hs : a.eval s = sl ao n c) (hn : xs.length = n) (hsto : Sto w base ao c xs)
    (ad : Addr) (m d : Nat) (news : List Value) (hx : a.eval x = .slice (some ad) m d) (hl : news.length = m) (hnews : ∀ j u, news[j]? = some u → w.cell? (ad.add j) = some u) (h1 : ∀ u ∈ news, u.oneCell' = true)
    (hm : 0 < m) (hb : n + m ≤ 100000) (hbase : base ≤ w.heap.size)
    (h : ∀ ao' c' w', Sto w' base ao' c' (xs ++ news) → w.grownBy w' ao → ((ao' = ao ∧ c' = c) ∨ (ao' = some w.heap.size ∧ c < c')) → wpList Yba.prog ops Q rest (a.put o.dst (sl ao' (n + m) c')) w') : wpList Yba.prog ops Q (o :: rest) a w := by
  subst hn
  obtain ⟨ao', c', w', hr, h2, h3, h4⟩ := run_app w base ao c xs hsto o.type ad m d news hl hnews h1 hm hb hbase
  exact Lib.wpList_append_run w hgd s x 23 23 ho _ _ hs hx _ _ hr (h ao' c' w' h2 h3 h4)

/-- The two storages: the buffer's and the model's. -/
structure Two (B : Nat) (w : World) (ao ao2 : Option Nat) (c c2 : Nat) (xs ys : List Value) (wr : World) : Prop where
  s1 : Sto wr (B + 1) ao c xs
  s2 : Sto wr (B + 1) ao2 c2 ys
  ne : ∀ g, ao = some g → ao2 ≠ some g
  bel : Below B w wr
  hB : B < wr.heap.size

section
variable {B : Nat} {w wr wr' : World} {ao ao2 ao' : Option Nat} {c c2 c' : Nat} {xs ys zs : List Value}
theorem Two.drewN (h : Two B w ao ao2 c c2 xs ys wr) (q : Nat) : Two B w ao ao2 c c2 xs ys (wr.drewN q) :=
  ⟨h.s1.kept (fun _ _ => rfl), h.s2.kept (fun _ _ => rfl), h.ne, below_drewN h.bel _, h.hB⟩
theorem Two.alloc (h : Two B w ao ao2 c c2 xs ys wr) (o : Obj) : Two B w ao ao2 c c2 xs ys (wr.alloc o) :=
  ⟨h.s1.kept (fun g hg => Below.heap_alloc _ _ _ (h.s1.lt g hg).2), h.s2.kept (fun g hg => Below.heap_alloc _ _ _ (h.s2.lt g hg).2), h.ne, h.bel.alloc (Nat.le_of_lt h.hB) _, by have := h.hB; simp; omega⟩
theorem Two.only (h : Two B w ao ao2 c c2 xs ys wr) (ho : Only B wr wr') : Two B w ao ao2 c c2 xs ys wr' :=
  ⟨h.s1.kept (fun g hg => ho.block g (by have := (h.s1.lt g hg).1; omega)), h.s2.kept (fun g hg => ho.block g (by have := (h.s2.lt g hg).1; omega)), h.ne,
    h.bel.trans ⟨ho.os, ho.tape, ho.output, Nat.le_of_eq ho.size.symm, fun k hk => ho.block k (by omega)⟩, by rw [ho.size]; exact h.hB⟩
theorem Two.swap (h : Two B w ao ao2 c c2 xs ys wr) : Two B w ao2 ao c2 c ys xs wr := ⟨h.s2, h.s1, fun g hg e => h.ne g e hg, h.bel, h.hB⟩
theorem Two.app (h : Two B w ao ao2 c c2 xs ys wr) (hs : Sto wr' (B + 1) ao' c' zs) (hg : wr.grownBy wr' ao) {H : Nat} (hH : wr.heap.size = H) (hor : (ao' = ao ∧ c' = c) ∨ (ao' = some H ∧ c < c')) :
    Two B w ao' ao2 c' c2 zs ys wr' ∧ wr'.heap[B]? = wr.heap[B]? := by
  have hblk : wr'.heap[B]? = wr.heap[B]? := hg.block B h.hB (fun e => by have := (h.s1.lt B e.symm).1; omega)
  refine ⟨⟨hs, h.s2.kept (fun g e => hg.block g (h.s2.lt g e).2 (fun e2 => h.ne g e2.symm e)), ?_, h.bel.grown hg (Nat.le_of_lt h.hB) (fun k e => by have := (h.s1.lt k e).1; omega), Nat.lt_of_lt_of_le h.hB hg.size⟩, hblk⟩
  intro g e e2
  rcases hor with ⟨rfl, _⟩ | ⟨rfl, _⟩
  · exact h.ne g e e2
  · injection e with e
    have := (h.s2.lt g e2).2
    omega
end

theorem Buf.kept {B : Nat} {ao : Option Nat} {c n : Nat} {w w' : World} (h : Buf B ao c n w) (hb : w'.heap[B]? = w.heap[B]?) : Buf B ao c n w' :=
  ⟨(World.cell?_of_block (a := ⟨B, 0, none⟩) hb).trans h.c0, (World.cell?_of_block (a := ⟨B, 1, none⟩) hb).trans h.c1, (World.frozen?_of_block (a := ⟨B, 0, none⟩) hb).trans h.f0, (World.frozen?_of_block (a := ⟨B, 1, none⟩) hb).trans h.f1⟩
theorem Sto.hnil {w : World} {base : Nat} {ao : Option Nat} {c : Nat} {xs : List Value} (h : Sto w base ao c xs) (e : ao = none) : c = 0 := by
  rcases h with ⟨_, h, _⟩ | ⟨g, cur, h, _⟩
  · exact h
  · rw [e] at h; cases h
theorem Sto.some {w : World} {base : Nat} {ao : Option Nat} {c : Nat} {xs : List Value} (h : Sto w base ao c xs) (hx : xs ≠ []) : ∃ g, ao = .some g := by
  rcases h with ⟨_, _, h⟩ | ⟨g, cur, h, _⟩
  · exact absurd h hx
  · exact ⟨g, h⟩

theorem news_new (w : World) (vs : List Value) : ∀ j u, vs[j]? = some u → (w.alloc (.cells vs.toArray 3)).cell? ((⟨w.heap.size, 0, none⟩ : Addr).add j) = some u := by
  intro j u hj
  rw [Addr.add_lit, Nat.zero_add, World.cell?_alloc_at (w := w) _ _ w.heap.size j rfl]
  simpa using hj
theorem alloc_block (w : World) (o : Obj) {B : Nat} (h : B < w.heap.size) : (w.alloc o).heap[B]? = w.heap[B]? := Below.heap_alloc _ _ _ h

/-- model[:0]. -/
theorem run_cut (ao : Option Nat) (n c : Nat) (w : World) : (Instr.slice 23 (sl ao n c) none (some (.int .i64 0)) none).run Yba.prog w = .ok (sl ao 0 c) w := by
  cases ao with
  | none => simp only [sl]; go_simp
  | some g => simp only [sl]; go_simp

/-- What holds at the head of round k. -/
def Inv (B k : Nat) (w : World) (mv : Value) (wr : World) : Prop :=
  ∃ (xs : List Int) (ao ao2 : Option Nat) (c c2 : Nat), mv = sl ao2 xs.length c2 ∧ xs.length ≤ 2 * k ∧ Buf B ao c xs.length wr ∧ Two B w ao ao2 c c2 (ints xs) (ints xs) wr

/-- What is known of the slice of bytes that came in. -/
def Came (a : Option Addr) (n : Nat) (ks : Nat → Int) (w : World) : Prop :=
  ∀ k, k < n → ∃ x, a = some x ∧ x.block < w.heap.size ∧ w.cell? (x.add k) = some (.int .u8 (ks k)) ∧ 0 ≤ ks k ∧ ks k ≤ 255

theorem add_block (x : Addr) (k : Nat) : (x.add k).block = x.block := by unfold Addr.add; split <;> rfl

set_option maxHeartbeats 1000000 in
theorem law_any (a0 : Option Addr) (n c0 : Nat) (ks : Nat → Int) (w : World) (hn : n ≤ 1024) (h0 : Came a0 n ks w) :
    Calls Yba.prog 3 #[.slice a0 n c0] w fun e w' => e = .returned (.bool true) ∧ Below w.heap.size w w' := by
  have H0 : Hid (Came a0 n ks w) := h0
  clear h0
  have hg1 : ¬ (1024 : Int) < (n : Int) := by omega
  go_enter Yba.func3, Yba.ntmps3
  go_wp2
  go_loopw [4, 13] (fun mv i wr => ∃ k : Nat, k ≤ n ∧ i = .int .i64 k ∧ Inv w.heap.size k w mv wr) (fun _ i _ => n - (intOf i).toNat)
  case atStart =>
    refine ⟨0, Nat.zero_le _, rfl, [], none, none, 0, 0, rfl, Nat.zero_le _, ⟨?_, ?_, ?_, ?_⟩, ⟨Sto.nil _ _, Sto.nil _ _, (fun g e => by cases e), (Below.refl _ _).alloc (Nat.le_refl _) _, by simp⟩⟩
    · simp only [sl]; go_simp
    · simp only [List.length_nil]; go_simp
    · go_simp
    · go_simp
  case round =>
    obtain ⟨k, hk, rfl, xs, ao, ao2, c, c2, rfl, hx, hbuf, htwo⟩ := hrel
    by_cases hlt : k < n
    · obtain ⟨x, rfl, hxb, hxc, hx0, hx1⟩ := H0.out k hlt
      have hxc' : wr.cell? (x.add k) = some (.int .u8 (ks k)) := (htwo.bel.cell (p := x.add k) (by rw [add_block]; exact hxb)).trans hxc
      clear hxc
      have HB : Hid (Buf w.heap.size ao c xs.length wr ∧ Two w.heap.size w ao ao2 c c2 (ints xs) (ints xs) wr) := ⟨hbuf, htwo⟩
      clear hbuf htwo
      generalize ks k = r at *
      by_cases r0 : r % 4 = 0
      · go_wp2_with fail
        refine (reset_any w.heap.size ao c xs.length wr HB.out.1).mono ?_
        rintro e w1 ⟨rfl, hb1, ho1⟩
        have HB1 : Hid (Buf w.heap.size ao c 0 w1 ∧ Two w.heap.size w ao ao2 c c2 (ints []) (ints []) w1) :=
          ⟨hb1, (Two.mk HB.out.2.s1.empty HB.out.2.s2.empty HB.out.2.ne HB.out.2.bel HB.out.2.hB).only ho1⟩
        have hcut := run_cut ao2 xs.length c2
        clear hb1 ho1 HB
        go_wp2_with fail
        refine (items_any w.heap.size ao c 0 w1 HB1.out.1 (Nat.zero_le _) HB1.out.2.s1.cmax HB1.out.2.s1.hnil).mono ?_
        rintro e w2 ⟨rfl, q, rfl⟩
        go_wp2_with fail
        have he := equal_any (w.heap.size + 1) ao ao2 c c2 [] (w1.drewN q) (by simp) (HB1.out.2.drewN q).s1 (HB1.out.2.drewN q).s2
        rw [List.length_nil] at he
        refine he.mono ?_
        clear he
        rintro e w3 ⟨rfl, q2, rfl⟩
        go_wp2
        go_roundw
        case rel => exact ⟨k + 1, by omega, by go_num, [], ao, ao2, c, c2, rfl, by simp, HB1.out.1.kept rfl, HB1.out.2.drewN _⟩
        case measure => simp [intOf]; omega
      · have hlen := HB.out.2.s1.len
        rw [ints_length] at hlen
        have hB1 := HB.out.2.hB
        by_cases r3 : r % 4 = 3
        · have e0 : ((r % 4) == 0) = false := by simpa using r0
          have e3 : ((r % 4) == 3) = true := by simpa using r3
          go_wp2_with fail
          refine (items_any w.heap.size ao c xs.length wr HB.out.1 hlen HB.out.2.s1.cmax HB.out.2.s1.hnil).mono ?_
          rintro e w1 ⟨rfl, q, rfl⟩
          have HT1 : Hid (Two w.heap.size w ao ao2 c c2 (ints xs) (ints xs) ((wr.drewN q).alloc (.cells #[.int .i64 (r + k), .int .i64 (-(r + k))] 3))) := (HB.out.2.drewN q).alloc _
          go_wp2_with (at_builtin; refine wpList_app _ rfl _ _ rfl (w.heap.size + 1) ao c xs.length (ints xs) rfl (ints_length xs) ?c1 ⟨wr.heap.size, 0, none⟩ 2 2 [.int .i64 (r + k), .int .i64 (-(r + k))] rfl rfl ?c2 ?c3 (by decide) ?c4 ?c5 ?_)
          case c1 => exact HT1.out.s1
          case c2 => exact news_new (wr.drewN q) [Value.int .i64 (r + (k : Int)), Value.int .i64 (-(r + (k : Int)))]
          case c3 => exact ints_one [r + (k : Int), -(r + (k : Int))]
          case c4 => omega
          case c5 => have := HT1.out.hB; omega
          intro ao' c' w2 hs2 hg2 hor2
          obtain ⟨hT2, hblk2⟩ := HT1.out.app hs2 hg2 (by simp) hor2
          have hbuf2 : Buf w.heap.size ao c xs.length w2 := HB.out.1.kept (hblk2.trans (alloc_block (wr.drewN q) _ hB1))
          have hor' : (ao' = ao ∧ c' = c) ∨ c < c' := by
            rcases hor2 with h | h
            · exact Or.inl h
            · exact Or.inr h.2
          have hnil0 := HB.out.2.s1.hnil
          have hcm0 := HB.out.2.s1.cmax
          have HT2 : Hid (Two w.heap.size w ao' ao2 c' c2 (ints xs ++ [Value.int .i64 (r + (k : Int)), Value.int .i64 (-(r + (k : Int)))]) (ints xs) w2 ∧ Buf w.heap.size ao c xs.length w2 ∧ ((ao' = ao ∧ c' = c) ∨ c < c') ∧ (ao = none → c = 0) ∧ c ≤ maxLen) := ⟨hT2, hbuf2, hor', hnil0, hcm0⟩
          clear hT2 hblk2 hbuf2 hs2 hg2 hor2 hor' hnil0 hcm0 HT1 HB
          go_wp2_with fail
          refine (set_any w.heap.size ao ao' c xs.length c' (xs.length + 2) w2 HT2.out.2.1 HT2.out.1.s1.cmax HT2.out.2.2.2.2 (HT2.out.1.s1.some (by simp)) HT2.out.2.2.1 HT2.out.2.2.2.1).mono ?_
          rintro e w3 ⟨rfl, hb3, ho3⟩
          have hT3 := HT2.out.1.only ho3
          have hB3 := hT3.hB
          have HT3 : Hid (Buf w.heap.size ao' c' (xs.length + 2) w3 ∧ Two w.heap.size w ao2 ao' c2 c' (ints xs) (ints xs ++ [Value.int .i64 (r + (k : Int)), Value.int .i64 (-(r + (k : Int)))]) (w3.alloc (.cells [Value.int .i64 (r + (k : Int)), Value.int .i64 (-(r + (k : Int)))].toArray 3))) := ⟨hb3, (hT3.alloc _).swap⟩
          clear hb3 ho3 hT3 HT2
          go_wp2_with (at_builtin; refine wpList_app _ rfl _ _ rfl (w.heap.size + 1) ao2 c2 xs.length (ints xs) rfl (ints_length xs) ?c1 ⟨w3.heap.size, 0, none⟩ 2 2 [Value.int .i64 (r + (k : Int)), Value.int .i64 (-(r + (k : Int)))] rfl rfl ?c2 ?c3 (by decide) ?c4 ?c5 ?_)
          case c1 => exact HT3.out.2.s1
          case c2 => exact news_new w3 [Value.int .i64 (r + (k : Int)), Value.int .i64 (-(r + (k : Int)))]
          case c3 => exact ints_one [r + (k : Int), -(r + (k : Int))]
          case c4 => omega
          case c5 => have := HT3.out.2.hB; exact this
          intro ao2' c2' w5 hs5 hg5 hor5
          obtain ⟨hT5, hblk5⟩ := HT3.out.2.app hs5 hg5 (by simp) hor5
          have hbuf5 : Buf w.heap.size ao' c' (xs.length + 2) w5 := HT3.out.1.kept (hblk5.trans (alloc_block w3 _ hB3))
          have e5 : ints xs ++ [Value.int .i64 (r + (k : Int)), Value.int .i64 (-(r + (k : Int)))] = ints (xs ++ [r + (k : Int), -(r + (k : Int))]) := (ints_append xs [r + (k : Int), -(r + (k : Int))]).symm
          rw [e5] at hT5
          have HT5 : Hid (Buf w.heap.size ao' c' (xs.length + 2) w5 ∧ Two w.heap.size w ao' ao2' c' c2' (ints (xs ++ [r + (k : Int), -(r + (k : Int))])) (ints (xs ++ [r + (k : Int), -(r + (k : Int))])) w5) := ⟨hbuf5, hT5.swap⟩
          clear hT5 hblk5 hbuf5 hs5 hg5 hor5 HT3 e5 hB3
          have hlen5 := HT5.out.2.s1.len
          have hln : (xs ++ [r + (k : Int), -(r + (k : Int))]).length = xs.length + 2 := by simp
          rw [ints_length, hln] at hlen5
          have HLN : Hid ((xs ++ [r + (k : Int), -(r + (k : Int))]).length = xs.length + 2) := hln
          clear hln
          go_wp2_with fail
          refine (items_any w.heap.size ao' c' (xs.length + 2) w5 HT5.out.1 hlen5 HT5.out.2.s1.cmax HT5.out.2.s1.hnil).mono ?_
          rintro e w6 ⟨rfl, q5, rfl⟩
          go_wp2_with fail
          have he := equal_any (w.heap.size + 1) ao' ao2' c' c2' (xs ++ [r + (k : Int), -(r + (k : Int))]) (w5.drewN q5) (by rw [HLN.out]; omega) (HT5.out.2.drewN q5).s1 (HT5.out.2.drewN q5).s2
          rw [HLN.out] at he
          refine he.mono ?_
          clear he
          rintro e w7 ⟨rfl, q6, rfl⟩
          go_wp2
          go_roundw
          case rel => exact ⟨k + 1, by omega, by go_num, xs ++ [r + (k : Int), -(r + (k : Int))], ao', ao2', c', c2', by rw [HLN.out], by rw [HLN.out]; omega, by rw [HLN.out]; exact HT5.out.1.kept rfl, HT5.out.2.drewN _⟩
          case measure => simp [intOf]; omega
        · have e0 : ((r % 4) == 0) = false := by simpa using r0
          have e3 : ((r % 4) == 3) = false := by simpa using r3
          go_wp2_with fail
          refine (items_any w.heap.size ao c xs.length wr HB.out.1 hlen HB.out.2.s1.cmax HB.out.2.s1.hnil).mono ?_
          rintro e w1 ⟨rfl, q, rfl⟩
          have HT1 : Hid (Two w.heap.size w ao ao2 c c2 (ints xs) (ints xs) ((wr.drewN q).alloc (.cells #[.int .i64 (r + k)] 3))) := (HB.out.2.drewN q).alloc _
          go_wp2_with (at_builtin; refine wpList_app _ rfl _ _ rfl (w.heap.size + 1) ao c xs.length (ints xs) rfl (ints_length xs) ?c1 ⟨wr.heap.size, 0, none⟩ 1 1 [.int .i64 (r + k)] rfl rfl ?c2 ?c3 (by decide) ?c4 ?c5 ?_)
          case c1 => exact HT1.out.s1
          case c2 => exact news_new (wr.drewN q) [Value.int .i64 (r + (k : Int))]
          case c3 => exact ints_one [r + (k : Int)]
          case c4 => omega
          case c5 => have := HT1.out.hB; omega
          intro ao' c' w2 hs2 hg2 hor2
          obtain ⟨hT2, hblk2⟩ := HT1.out.app hs2 hg2 (by simp) hor2
          have hbuf2 : Buf w.heap.size ao c xs.length w2 := HB.out.1.kept (hblk2.trans (alloc_block (wr.drewN q) _ hB1))
          have hor' : (ao' = ao ∧ c' = c) ∨ c < c' := by
            rcases hor2 with h | h
            · exact Or.inl h
            · exact Or.inr h.2
          have hnil0 := HB.out.2.s1.hnil
          have hcm0 := HB.out.2.s1.cmax
          have HT2 : Hid (Two w.heap.size w ao' ao2 c' c2 (ints xs ++ [Value.int .i64 (r + (k : Int))]) (ints xs) w2 ∧ Buf w.heap.size ao c xs.length w2 ∧ ((ao' = ao ∧ c' = c) ∨ c < c') ∧ (ao = none → c = 0) ∧ c ≤ maxLen) := ⟨hT2, hbuf2, hor', hnil0, hcm0⟩
          clear hT2 hblk2 hbuf2 hs2 hg2 hor2 hor' hnil0 hcm0 HT1 HB
          go_wp2_with fail
          refine (set_any w.heap.size ao ao' c xs.length c' (xs.length + 1) w2 HT2.out.2.1 HT2.out.1.s1.cmax HT2.out.2.2.2.2 (HT2.out.1.s1.some (by simp)) HT2.out.2.2.1 HT2.out.2.2.2.1).mono ?_
          rintro e w3 ⟨rfl, hb3, ho3⟩
          have hT3 := HT2.out.1.only ho3
          have hB3 := hT3.hB
          have HT3 : Hid (Buf w.heap.size ao' c' (xs.length + 1) w3 ∧ Two w.heap.size w ao2 ao' c2 c' (ints xs) (ints xs ++ [Value.int .i64 (r + (k : Int))]) (w3.alloc (.cells [Value.int .i64 (r + (k : Int))].toArray 3))) := ⟨hb3, (hT3.alloc _).swap⟩
          clear hb3 ho3 hT3 HT2
          go_wp2_with (at_builtin; refine wpList_app _ rfl _ _ rfl (w.heap.size + 1) ao2 c2 xs.length (ints xs) rfl (ints_length xs) ?c1 ⟨w3.heap.size, 0, none⟩ 1 1 [Value.int .i64 (r + (k : Int))] rfl rfl ?c2 ?c3 (by decide) ?c4 ?c5 ?_)
          case c1 => exact HT3.out.2.s1
          case c2 => exact news_new w3 [Value.int .i64 (r + (k : Int))]
          case c3 => exact ints_one [r + (k : Int)]
          case c4 => omega
          case c5 => have := HT3.out.2.hB; exact this
          intro ao2' c2' w5 hs5 hg5 hor5
          obtain ⟨hT5, hblk5⟩ := HT3.out.2.app hs5 hg5 (by simp) hor5
          have hbuf5 : Buf w.heap.size ao' c' (xs.length + 1) w5 := HT3.out.1.kept (hblk5.trans (alloc_block w3 _ hB3))
          have e5 : ints xs ++ [Value.int .i64 (r + (k : Int))] = ints (xs ++ [r + (k : Int)]) := (ints_append xs [r + (k : Int)]).symm
          rw [e5] at hT5
          have HT5 : Hid (Buf w.heap.size ao' c' (xs.length + 1) w5 ∧ Two w.heap.size w ao' ao2' c' c2' (ints (xs ++ [r + (k : Int)])) (ints (xs ++ [r + (k : Int)])) w5) := ⟨hbuf5, hT5.swap⟩
          clear hT5 hblk5 hbuf5 hs5 hg5 hor5 HT3 e5 hB3
          have hlen5 := HT5.out.2.s1.len
          have hln : (xs ++ [r + (k : Int)]).length = xs.length + 1 := by simp
          rw [ints_length, hln] at hlen5
          have HLN : Hid ((xs ++ [r + (k : Int)]).length = xs.length + 1) := hln
          clear hln
          go_wp2_with fail
          refine (items_any w.heap.size ao' c' (xs.length + 1) w5 HT5.out.1 hlen5 HT5.out.2.s1.cmax HT5.out.2.s1.hnil).mono ?_
          rintro e w6 ⟨rfl, q5, rfl⟩
          go_wp2_with fail
          have he := equal_any (w.heap.size + 1) ao' ao2' c' c2' (xs ++ [r + (k : Int)]) (w5.drewN q5) (by rw [HLN.out]; omega) (HT5.out.2.drewN q5).s1 (HT5.out.2.drewN q5).s2
          rw [HLN.out] at he
          refine he.mono ?_
          clear he
          rintro e w7 ⟨rfl, q6, rfl⟩
          go_wp2
          go_roundw
          case rel => exact ⟨k + 1, by omega, by go_num, xs ++ [r + (k : Int)], ao', ao2', c', c2', by rw [HLN.out], by rw [HLN.out]; omega, by rw [HLN.out]; exact HT5.out.1.kept rfl, HT5.out.2.drewN _⟩
          case measure => simp [intOf]; omega
    · go_wp2
      go_ret
      exact ⟨rfl, htwo.bel⟩

set_option maxHeartbeats 400000 in
theorem law_big (a0 : Option Addr) (n c0 : Nat) (w : World) (hn : n ≤ maxLen) (h : 1024 < n) :
    Calls Yba.prog 3 #[.slice a0 n c0] w fun e w' => e = .returned (.bool true) ∧ Below w.heap.size w w' := by
  unfold maxLen at hn
  have hg1 : (1024 : Int) < (n : Int) := by omega
  go_enter Yba.func3, Yba.ntmps3
  go_wp2
  go_ret
  exact ⟨rfl, Below.refl _ _⟩

end Go.Proofs.Ybulkccxs
