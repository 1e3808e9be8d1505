import Derived.Test.YbulkdnusCBuild
namespace Go.Proofs.Ybulkdnus.C
open Go.RowKit
open Go.ChangeMaps (setBlock)
set_option linter.unusedVariables false
set_option maxRecDepth 100000

/-- all that stands while the acceptor lives -/
structure Whole (w : World) (A cb pb : Nat) (st : Int) (cl hc fail : Bool) (lm cm : Option Nat) (S1 n1 S2 n2 : Nat) (cnt t1 t2 : Int) : Prop where
  acc : w.heap[A]? = some (acc st cl (canV hc cb) lm cm)
  box : w.heap[cb]? = some (boxObj pb)
  cnt : w.heap[pb]? = some (.cells #[.int .i64 cnt] 3 (0, 0))
  lis : Rows w 74 76 lm S1 n1 t1 fail
  con : Rows w 77 78 cm S2 n2 t2 fail
  o1 : pb < cb
  o2 : cb < A
  o3 : A < S1
  o4 : S1 + n1 < S2
  o5 : S2 + n2 < w.heap.size
  m1 : ∀ M, lm = some M → A < M ∧ M < S1
  m2 : ∀ M, cm = some M → A < M ∧ M < S1

theorem Whole.setA {w : World} {A cb pb : Nat} {st : Int} {cl hc fail : Bool} {lm cm : Option Nat} {S1 n1 S2 n2 : Nat} {cnt t1 t2 : Int} (h : Whole w A cb pb st cl hc fail lm cm S1 n1 S2 n2 cnt t1 t2)
    (i : Nat) (v : Value) (st' : Int) (cl' : Bool) (ha : (w.setCell ⟨A, i, none⟩ v).heap[A]? = some (C.acc st' cl' (canV hc cb) lm cm)) : Whole (w.setCell ⟨A, i, none⟩ v) A cb pb st' cl' hc fail lm cm S1 n1 S2 n2 cnt t1 t2 where
  acc := ha
  box := (heap_setCell_other (by have := h.o2; show cb ≠ A; omega)).trans h.box
  cnt := (heap_setCell_other (by have := h.o1; have := h.o2; show pb ≠ A; omega)).trans h.cnt
  lis := h.lis.kept fun k hk => heap_setCell_other (by
    have := h.o3
    rcases hk with hk | hk
    · show k ≠ A; omega
    · have := h.m1 k hk; show k ≠ A; omega)
  con := h.con.kept fun k hk => heap_setCell_other (by
    have := h.o3; have := h.o4
    rcases hk with hk | hk
    · show k ≠ A; omega
    · have := h.m2 k hk; show k ≠ A; omega)
  o1 := h.o1
  o2 := h.o2
  o3 := h.o3
  o4 := h.o4
  o5 := by simpa using h.o5
  m1 := h.m1
  m2 := h.m2

theorem Whole.setSt {w : World} {A cb pb : Nat} {st : Int} {cl hc fail : Bool} {lm cm : Option Nat} {S1 n1 S2 n2 : Nat} {cnt t1 t2 : Int} (h : Whole w A cb pb st cl hc fail lm cm S1 n1 S2 n2 cnt t1 t2) (s : Int) :
    Whole (w.setCell ⟨A, 0, none⟩ (.int .i32 s)) A cb pb s cl hc fail lm cm S1 n1 S2 n2 cnt t1 t2 :=
  h.setA 0 _ s cl (by rw [setCell_heap_same h.acc (by simp)]; rfl)
theorem Whole.setCl {w : World} {A cb pb : Nat} {st : Int} {cl hc fail : Bool} {lm cm : Option Nat} {S1 n1 S2 n2 : Nat} {cnt t1 t2 : Int} (h : Whole w A cb pb st cl hc fail lm cm S1 n1 S2 n2 cnt t1 t2) (c : Bool) :
    Whole (w.setCell ⟨A, 2, none⟩ (.bool c)) A cb pb st c hc fail lm cm S1 n1 S2 n2 cnt t1 t2 :=
  h.setA 2 _ st c (by rw [setCell_heap_same h.acc (by simp)]; rfl)

theorem Whole.drew {w : World} {A cb pb : Nat} {st : Int} {cl hc fail : Bool} {lm cm : Option Nat} {S1 n1 S2 n2 : Nat} {cnt t1 t2 : Int} (h : Whole w A cb pb st cl hc fail lm cm S1 n1 S2 n2 cnt t1 t2) :
    Whole w.drew A cb pb st cl hc fail lm cm S1 n1 S2 n2 cnt t1 t2 := ⟨h.acc, h.box, h.cnt, ⟨h.lis.row, h.lis.obj, h.lis.map⟩, ⟨h.con.row, h.con.obj, h.con.map⟩, h.o1, h.o2, h.o3, h.o4, h.o5, h.m1, h.m2⟩

theorem Whole.count {w : World} {A cb pb : Nat} {st : Int} {cl hc fail : Bool} {lm cm : Option Nat} {S1 n1 S2 n2 : Nat} {cnt t1 t2 : Int} (h : Whole w A cb pb st cl hc fail lm cm S1 n1 S2 n2 cnt t1 t2) (c : Int) :
    Whole (w.setCell ⟨pb, 0, none⟩ (.int .i64 c)) A cb pb st cl hc fail lm cm S1 n1 S2 n2 c t1 t2 where
  acc := (heap_setCell_other (by have := h.o1; have := h.o2; show A ≠ pb; omega)).trans h.acc
  box := (heap_setCell_other (by have := h.o1; show cb ≠ pb; omega)).trans h.box
  cnt := by rw [setCell_heap_same h.cnt (by simp)]; rfl
  lis := h.lis.kept fun k hk => heap_setCell_other (by
    have := h.o3; have := h.o1; have := h.o2
    rcases hk with hk | hk
    · show k ≠ pb; omega
    · have := h.m1 k hk; show k ≠ pb; omega)
  con := h.con.kept fun k hk => heap_setCell_other (by
    have := h.o3; have := h.o4; have := h.o1; have := h.o2
    rcases hk with hk | hk
    · show k ≠ pb; omega
    · have := h.m2 k hk; show k ≠ pb; omega)
  o1 := h.o1
  o2 := h.o2
  o3 := h.o3
  o4 := h.o4
  o5 := by simpa using h.o5
  m1 := h.m1
  m2 := h.m2

/-- the range over a map: 'seen' are closed -/
structure Rng (W0 wr : World) (te : TypeId) (M S n r : Nat) (fail : Bool) (seen : Array Nat) : Prop where
  chg : Chg (fun k => S < k ∧ k ≤ S + n) W0 wr
  it : wr.heap[r]? = some (.mapIter (some M) n seen n)
  obj : ∀ j, j < n → wr.heap[S + 1 + j]? = some (item te (if seen.contains j then 1 else 0) fail)

theorem Rng.start {W0 : World} {te : TypeId} {M S n : Nat} {fail : Bool} (ho : ∀ j, j < n → W0.heap[S + 1 + j]? = some (item te 0 fail)) (hs : S + n < W0.heap.size) : Rng W0 (W0.alloc (.mapIter (some M) n #[] n)) te M S n W0.heap.size fail #[] where
  chg := (Chg.refl _ _).alloc _
  it := new_at _ _ rfl
  obj := fun j hj => by
    rw [Below.heap_alloc _ _ _ (by omega)]
    simpa using ho j hj

theorem born_lt {tp : TypeId} {base n : Nat} : ∀ x ∈ (ents tp base n).toList, x.born < n := fun x hx => by
  obtain ⟨i, hi, rfl⟩ := mem_ents hx
  exact hi
theorem born_nodup (tp : TypeId) (base n : Nat) : ((ents tp base n).toList.map (·.born)).Nodup := by
  have : (ents tp base n).toList.map (·.born) = List.range n := by
    simp [ents, List.map_map, Function.comp_def, ent]
  rw [this]; exact List.nodup_range

/-- where a round stands after 'next' and 'entry' -/
structure Nxt (W0 wr : World) (tp te : TypeId) (M S n r : Nat) (fail : Bool) (seen : Array Nat) (j : Nat) : Prop where
  chg : Chg (fun k => S < k ∧ k ≤ S + n) W0 wr
  it : wr.heap[r]? = some (.mapIter (some M) n (seen.push j) n)
  obj : ∀ j, j < n → wr.heap[S + 1 + j]? = some (item te (if seen.contains j then 1 else 0) fail)
  jn : j < n
  new : seen.contains j = false
  ent : (Instr.entry (.pointer (some ⟨r, 0, none⟩))).run Yba.prog wr = .ok (.tuple #[.iface tp (.pointer (some ⟨S + 1 + j, 0, none⟩)), .bool true]) wr

theorem Rng.map {W0 wr : World} {tp te : TypeId} {M S n r : Nat} {fail : Bool} {seen : Array Nat} (h : Rng W0 wr te M S n r fail seen) (hm : W0.heap[M]? = some (.map (ents tp (S + 1) n) n)) (hM : M < S) : wr.heap[M]? = some (.map (ents tp (S + 1) n) n) :=
  (h.chg.block M (lt_of_heap hm) (by omega)).trans hm

theorem Rng.next {W0 wr : World} {tp te : TypeId} {M S n r : Nat} {fail : Bool} {seen : Array Nat} (h : Rng W0 wr te M S n r fail seen) (hm : W0.heap[M]? = some (.map (ents tp (S + 1) n) n)) (hM : M < S) (hs : S + n < W0.heap.size) (hr : W0.heap.size ≤ r) (ty : TypeId) :
    ((∀ j, j < n → seen.contains j = true) ∧ (Instr.next (.pointer (some ⟨r, 0, none⟩)) false ty).run Yba.prog wr = .ok (.tuple #[.bool false]) wr) ∨
    ∃ j Wn, Nxt W0 Wn tp te M S n r fail seen j ∧ (leftOf (ents tp (S + 1) n) (seen.push j)).size < (leftOf (ents tp (S + 1) n) seen).size ∧
      (Instr.next (.pointer (some ⟨r, 0, none⟩)) false ty).run Yba.prog wr = .ok (.tuple #[.bool true, .iface tp (.pointer (some ⟨S + 1 + j, 0, none⟩)), .bool true]) Wn := by
  have hb := h.map hm hM
  rcases run_next_at (P := Yba.prog) wr ty r M n n seen (ents tp (S + 1) n) n h.it hb born_lt (Nat.le_refl _) with ⟨h0, hrun⟩ | ⟨e, he, w1, hal, hrun⟩
  · refine .inl ⟨fun j hj => ?_, hrun⟩
    refine all_seen _ _ h0 (C.ent tp (S + 1) j) ?_
    simp only [ents, List.mem_map, List.mem_range]
    exact ⟨j, hj, rfl⟩
  · obtain ⟨hmem, hnew⟩ := mem_left he
    obtain ⟨j, hj, rfl⟩ := mem_ents hmem
    have hshr := left_shrinks _ _ _ he
    refine .inr ⟨j, _, ?_, hshr, hrun⟩
    have hw : w1.heap = wr.heap := by rcases hal with rfl | rfl <;> rfl
    have hk : ∀ k, k ≠ r → (setBlock w1 r (.mapIter (some M) n (seen.push j) n)).heap[k]? = wr.heap[k]? := fun k hk => by
      rw [heap_setBlock_other _ hk, hw]
    have hit : (setBlock w1 r (.mapIter (some M) n (seen.push j) n)).heap[r]? = some (.mapIter (some M) n (seen.push j) n) := heap_setBlock_same _ (by rw [hw]; exact lt_of_heap h.it)
    refine ⟨?_, hit, fun i hi => (hk _ (by omega)).trans (h.obj i hi), hj, hnew, ?_⟩
    · have h1 : Chg (fun k => S < k ∧ k ≤ S + n) W0 w1 := by
        rcases hal with rfl | rfl
        · exact h.chg
        · exact h.chg.drew
      exact h1.setBlock _ _ (fun hlt => by omega)
    · exact run_entry_at (P := Yba.prog) _ r M n seen (ents tp (S + 1) n) n (C.ent tp (S + 1) j) hit ((hk M (by have := lt_of_heap hm; omega)).trans hb) hmem (born_nodup tp (S + 1) n)

theorem Nxt.done {W0 wr w' : World} {tp te : TypeId} {M S n r : Nat} {fail : Bool} {seen : Array Nat} {j : Nat} (h : Nxt W0 wr tp te M S n r fail seen j) (hs : S + n < W0.heap.size) (hr : W0.heap.size ≤ r) (hc : Closed wr w' (S + 1 + j) te fail) : Rng W0 w' te M S n r fail (seen.push j) := by
  have hjn := h.jn
  refine ⟨h.chg.trans (hc.1.mono fun k _ e => by subst e; omega), (hc.1.block r (lt_of_heap h.it) (by omega)).trans h.it, fun i hi => ?_⟩
  by_cases e : i = j
  · subst e
    rw [contains_push]
    simp
    exact hc.2
  · rw [contains_push]
    rw [hc.1.block _ (lt_of_heap (h.obj i hi)) (by omega), h.obj i hi]
    have : (i == j) = false := by simpa using e
    simp [this]

theorem Nxt.item {W0 wr : World} {tp te : TypeId} {M S n r : Nat} {fail : Bool} {seen : Array Nat} {j : Nat} (h : Nxt W0 wr tp te M S n r fail seen j) : wr.heap[S + 1 + j]? = some (C.item te 0 fail) := by
  have := h.obj j h.jn
  rw [h.new] at this
  simpa using this

theorem Whole.lisDone {W0 wr : World} {A cb pb : Nat} {st : Int} {cl hc fail : Bool} {cm : Option Nat} {S1 n1 S2 n2 : Nat} {cnt t2 : Int} {M r : Nat} {seen : Array Nat} (h : Whole W0 A cb pb st cl hc fail (some M) cm S1 n1 S2 n2 cnt 0 t2)
    (hr : Rng W0 wr 76 M S1 n1 r fail seen) (ha : ∀ j, j < n1 → seen.contains j = true) : Whole wr A cb pb st cl hc fail (some M) cm S1 n1 S2 n2 cnt 1 t2 := by
  have o1 := h.o1; have o2 := h.o2; have o3 := h.o3; have o4 := h.o4; have o5 := h.o5
  have hk : ∀ k, k < W0.heap.size → ¬ (S1 < k ∧ k ≤ S1 + n1) → wr.heap[k]? = W0.heap[k]? := hr.chg.block
  refine ⟨(hk A (by omega) (by omega)).trans h.acc, (hk cb (by omega) (by omega)).trans h.box, (hk pb (by omega) (by omega)).trans h.cnt, ⟨?_, ?_, ?_⟩, h.con.kept fun k hkk => hk k ?_ ?_, o1, o2, o3, o4, Nat.lt_of_lt_of_le o5 hr.chg.size, h.m1, h.m2⟩
  · exact fun j hj => (World.cell?_of_block (hk S1 (by omega) (by omega))).trans (h.lis.row j hj)
  · intro j hj
    rw [hr.obj j hj, ha j hj]; rfl
  · intro M' e
    have := h.m1 M' e
    exact (hk M' (by omega) (by omega)).trans (h.lis.map M' e)
  · rcases hkk with hkk | hkk
    · omega
    · have := h.m2 k hkk; omega
  · rcases hkk with hkk | hkk
    · omega
    · have := h.m2 k hkk; omega

theorem Whole.conDone {W0 wr : World} {A cb pb : Nat} {st : Int} {cl hc fail : Bool} {lm : Option Nat} {S1 n1 S2 n2 : Nat} {cnt t1 : Int} {M r : Nat} {seen : Array Nat} (h : Whole W0 A cb pb st cl hc fail lm (some M) S1 n1 S2 n2 cnt t1 0)
    (hr : Rng W0 wr 78 M S2 n2 r fail seen) (ha : ∀ j, j < n2 → seen.contains j = true) : Whole wr A cb pb st cl hc fail lm (some M) S1 n1 S2 n2 cnt t1 1 := by
  have o1 := h.o1; have o2 := h.o2; have o3 := h.o3; have o4 := h.o4; have o5 := h.o5
  have hk : ∀ k, k < W0.heap.size → ¬ (S2 < k ∧ k ≤ S2 + n2) → wr.heap[k]? = W0.heap[k]? := hr.chg.block
  refine ⟨(hk A (by omega) (by omega)).trans h.acc, (hk cb (by omega) (by omega)).trans h.box, (hk pb (by omega) (by omega)).trans h.cnt, h.lis.kept fun k hkk => hk k ?_ ?_, ⟨?_, ?_, ?_⟩, o1, o2, o3, o4, Nat.lt_of_lt_of_le o5 hr.chg.size, h.m1, h.m2⟩
  · rcases hkk with hkk | hkk
    · omega
    · have := h.m1 k hkk; omega
  · rcases hkk with hkk | hkk
    · omega
    · have := h.m1 k hkk; omega
  · exact fun j hj => (World.cell?_of_block (hk S2 (by omega) (by omega))).trans (h.con.row j hj)
  · intro j hj
    rw [hr.obj j hj, ha j hj]; rfl
  · intro M' e
    have := h.m2 M' e
    exact (hk M' (by omega) (by omega)).trans (h.con.map M' e)

/-- a new block changes nothing of it -/
theorem Whole.alloc {w : World} {A cb pb : Nat} {st : Int} {cl hc fail : Bool} {lm cm : Option Nat} {S1 n1 S2 n2 : Nat} {cnt t1 t2 : Int} (h : Whole w A cb pb st cl hc fail lm cm S1 n1 S2 n2 cnt t1 t2) (o : Obj) :
    Whole (w.alloc o) A cb pb st cl hc fail lm cm S1 n1 S2 n2 cnt t1 t2 := by
  have o1 := h.o1; have o2 := h.o2; have o3 := h.o3; have o4 := h.o4; have o5 := h.o5
  have hk : ∀ k, k < w.heap.size → (w.alloc o).heap[k]? = w.heap[k]? := fun k hk => Below.heap_alloc _ _ _ hk
  refine ⟨(hk A (by omega)).trans h.acc, (hk cb (by omega)).trans h.box, (hk pb (by omega)).trans h.cnt, h.lis.kept fun k hkk => hk k ?_, h.con.kept fun k hkk => hk k ?_, o1, o2, o3, o4, by simp; omega, h.m1, h.m2⟩
  · rcases hkk with hkk | hkk
    · omega
    · have := h.m1 k hkk; omega
  · rcases hkk with hkk | hkk
    · omega
    · have := h.m2 k hkk; omega
end Go.Proofs.Ybulkdnus.C
