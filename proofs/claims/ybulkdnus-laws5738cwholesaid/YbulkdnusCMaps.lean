import Derived.Test.YbulkdnusCBase
namespace Go.Proofs.Ybulkdnus.C
open Go.RowKit
open Go.ChangeMaps (setBlock)
set_option linter.unusedVariables false
set_option maxRecDepth 100000

def ptr (b : Nat) : Value := .pointer (some ⟨b, 0, none⟩)
def key (tp : TypeId) (b : Nat) : Value := .iface tp (ptr b)
def ent (tp : TypeId) (base i : Nat) : MapEntry := { key := key tp (base + i), val := .bool true, born := i }
def ents (tp : TypeId) (base n : Nat) : Array MapEntry := ((List.range n).map (ent tp base)).toArray

/-- the types of a map: interface, pointer, struct -/
structure Ties (mt ti tp te : TypeId) : Prop where
  map : ∃ e, Yba.prog.underlying mt = some (.map ti e)
  iface : ∃ ms, Yba.prog.underlying ti = some (.interface ms)
  ptr : Yba.prog.underlying tp = some (.pointer te)
  comp : ∃ i, Yba.prog.info? tp = some i ∧ i.comparable = true
  size : ∃ j, Yba.prog.info? te = some j ∧ j.size ≠ 0

theorem comp74 : ∃ i, Yba.prog.info? 74 = some i ∧ i.comparable = true := by
  have h : (Yba.prog.info? 74).map (·.comparable) = some true := by kernel_rfl
  obtain ⟨i, hi, hc⟩ := Option.map_eq_some_iff.1 h
  exact ⟨i, hi, hc⟩
theorem comp77 : ∃ i, Yba.prog.info? 77 = some i ∧ i.comparable = true := by
  have h : (Yba.prog.info? 77).map (·.comparable) = some true := by kernel_rfl
  obtain ⟨i, hi, hc⟩ := Option.map_eq_some_iff.1 h
  exact ⟨i, hi, hc⟩
theorem size76 : ∃ j, Yba.prog.info? 76 = some j ∧ j.size ≠ 0 := by
  have h : (Yba.prog.info? 76).map (·.size) = some 2 := by kernel_rfl
  obtain ⟨i, hi, hc⟩ := Option.map_eq_some_iff.1 h
  exact ⟨i, hi, by rw [hc]; decide⟩
theorem size78 : ∃ j, Yba.prog.info? 78 = some j ∧ j.size ≠ 0 := by
  have h : (Yba.prog.info? 78).map (·.size) = some 2 := by kernel_rfl
  obtain ⟨i, hi, hc⟩ := Option.map_eq_some_iff.1 h
  exact ⟨i, hi, by rw [hc]; decide⟩
theorem tiesL : Ties 60 80 74 76 := ⟨⟨_, Yba.underlying60⟩, ⟨_, Yba.underlying80⟩, Yba.underlying74, comp74, size76⟩
theorem tiesC : Ties 61 82 77 78 := ⟨⟨_, Yba.underlying61⟩, ⟨_, Yba.underlying82⟩, Yba.underlying77, comp77, size78⟩

theorem equal_same {mt ti tp te : TypeId} (T : Ties mt ti tp te) (b : Nat) (w : World) : (Op.equal ti (key tp b) (key tp b)).run Yba.prog w = .ok true w := by
  obtain ⟨ms, hi⟩ := T.iface
  obtain ⟨i, h1, h2⟩ := T.comp
  obtain ⟨j, h3, h4⟩ := T.size
  exact run_equalIn_iface_ptr_same w 9998 ⟨b, 0, none⟩ hi T.ptr h1 h2 h3
theorem equal_other {mt ti tp te : TypeId} (T : Ties mt ti tp te) {a b : Nat} {w : World} {ca cb : Array Value} {ta tb : TypeId} (hne : a ≠ b) (ha : w.heap[a]? = some (.cells ca ta (0, 0))) (hb : w.heap[b]? = some (.cells cb tb (0, 0))) :
    (Op.equal ti (key tp a) (key tp b)).run Yba.prog w = .ok false w := by
  obtain ⟨ms, hi⟩ := T.iface
  obtain ⟨i, h1, h2⟩ := T.comp
  obtain ⟨j, h3, h4⟩ := T.size
  exact run_equalIn_iface_ptr_other w 9998 hi T.ptr h1 h2 h3 h4 (fun e => hne (by cases e; rfl)) ha hb

theorem ask_none {mt ti tp te : TypeId} (T : Ties mt ti tp te) {a : Nat} {w : World} {ca : Array Value} {ta : TypeId} (ha : w.heap[a]? = some (.cells ca ta (0, 0))) :
    ∀ (L : List MapEntry) (i : Nat), (∀ e ∈ L, ∃ b cb tb, e.key = key tp b ∧ a ≠ b ∧ w.heap[b]? = some (.cells cb tb (0, 0))) → (Instr.findAsking ti (key tp a) L i).run Yba.prog w = .ok none w
  | [], i, _ => rfl
  | e :: L, i, h => by
    obtain ⟨b, cb, tb, hk, hne, hb⟩ := h e (by simp)
    have hq := equal_other T hne ha hb
    simp only [Instr.findAsking, Sem.run_bind, hk, hq, Result.andThen, Bool.false_eq_true, if_false]
    exact ask_none T ha L (i + 1) fun e he => h e (by simp [he])

theorem ask_some {mt ti tp te : TypeId} (T : Ties mt ti tp te) {a : Nat} {w : World} {ca : Array Value} {ta : TypeId} (ha : w.heap[a]? = some (.cells ca ta (0, 0))) (e0 : MapEntry) (he0 : e0.key = key tp a) (R : List MapEntry) :
    ∀ (L : List MapEntry) (i : Nat), (∀ e ∈ L, ∃ b cb tb, e.key = key tp b ∧ a ≠ b ∧ w.heap[b]? = some (.cells cb tb (0, 0))) → (Instr.findAsking ti (key tp a) (L ++ e0 :: R) i).run Yba.prog w = .ok (some (i + L.length, e0.val)) w
  | [], i, _ => by
    have hq := equal_same T a w
    simp only [List.nil_append, Instr.findAsking, Sem.run_bind, he0, hq, Result.andThen, if_true]
    rfl
  | e :: L, i, h => by
    obtain ⟨b, cb, tb, hk, hne, hb⟩ := h e (by simp)
    have hq := equal_other T hne ha hb
    simp only [List.cons_append, Instr.findAsking, Sem.run_bind, hk, hq, Result.andThen, Bool.false_eq_true, if_false]
    rw [ask_some T ha e0 he0 R L (i + 1) fun e he => h e (by simp [he])]
    simp only [List.length_cons]
    congr 3
    omega

theorem checked_n {mt ti tp te : TypeId} (T : Ties mt ti tp te) (b : Nat) (em : Bool) (w : World) (d : Nat) : (Instr.checkKey em (d + 2) ti (key tp b)).run Yba.prog w = .ok () w := by
  obtain ⟨ms, hi⟩ := T.iface
  obtain ⟨i, h1, h2⟩ := T.comp
  simp [Instr.checkKey, key, ptr, run_underlying hi, run_underlying T.ptr, typeInfo, h1, h2]
theorem checked {mt ti tp te : TypeId} (T : Ties mt ti tp te) (b : Nat) (em : Bool) (w : World) : (Instr.checkKey em 10000 ti (key tp b)).run Yba.prog w = .ok () w := checked_n T b em w 9998

theorem find_none {mt ti tp te : TypeId} (T : Ties mt ti tp te) {a : Nat} {w : World} {ca : Array Value} {ta : TypeId} (ha : w.heap[a]? = some (.cells ca ta (0, 0))) (L : List MapEntry)
    (h : ∀ e ∈ L, ∃ b cb tb, e.key = key tp b ∧ a ≠ b ∧ w.heap[b]? = some (.cells cb tb (0, 0))) : (Instr.findKey ti (key tp a) L).run Yba.prog w = .ok none w := by
  obtain ⟨ms, hi⟩ := T.iface
  cases L with
  | nil => simp [Instr.findKey, run_underlying hi, Instr.findNow]
  | cons e L =>
    have hq := ask_none T ha (e :: L) 0 h
    have hn : Instr.findNow (.interface ms) (key tp a) (e :: L) 0 = none := by simp [Instr.findNow, Instr.sameNow]
    simp only [Instr.findKey, Sem.run_bind, run_underlying hi, Result.andThen, hn]
    exact hq

theorem find_some {mt ti tp te : TypeId} (T : Ties mt ti tp te) {a : Nat} {w : World} {ca : Array Value} {ta : TypeId} (ha : w.heap[a]? = some (.cells ca ta (0, 0))) (e0 : MapEntry) (he0 : e0.key = key tp a) (L R : List MapEntry)
    (h : ∀ e ∈ L, ∃ b cb tb, e.key = key tp b ∧ a ≠ b ∧ w.heap[b]? = some (.cells cb tb (0, 0))) : (Instr.findKey ti (key tp a) (L ++ e0 :: R)).run Yba.prog w = .ok (some (L.length, e0.val)) w := by
  obtain ⟨ms, hi⟩ := T.iface
  have hq := ask_some T ha e0 he0 R L 0 h
  have hn : Instr.findNow (.interface ms) (key tp a) (L ++ e0 :: R) 0 = none := by
    cases L <;> simp [Instr.findNow, Instr.sameNow]
  simp only [Instr.findKey, Sem.run_bind, run_underlying hi, Result.andThen, hn]
  rw [hq, Nat.zero_add]

theorem ents_succ (tp : TypeId) (base n : Nat) : ents tp base (n + 1) = (ents tp base n).push (ent tp base n) := by
  simp [ents, List.range_succ]
theorem mem_ents {tp : TypeId} {base n : Nat} {e : MapEntry} (h : e ∈ (ents tp base n).toList) : ∃ i, i < n ∧ e = ent tp base i := by
  simp only [ents, List.mem_map, List.mem_range] at h
  obtain ⟨i, hi, rfl⟩ := h
  exact ⟨i, hi, rfl⟩

/-- 'm[k] = true' at a new key -/
theorem put {mt ti tp te : TypeId} (T : Ties mt ti tp te) {w : World} {M base n : Nat} (hm : w.heap[M]? = some (.map (ents tp base n) n)) (hc : ∀ i, i ≤ n → ∃ c t, w.heap[base + i]? = some (.cells c t (0, 0))) :
    (Instr.mapUpdate mt (.map (some M)) (key tp (base + n)) (.bool true)).run Yba.prog w = .ok () (setBlock w M (.map (ents tp base (n + 1)) (n + 1))) := by
  obtain ⟨e, he⟩ := T.map
  obtain ⟨c, t, h0⟩ := hc n (Nat.le_refl _)
  have hf := find_none T h0 (ents tp base n).toList (fun e he => by
    obtain ⟨i, hi, rfl⟩ := mem_ents he
    obtain ⟨c, t, h1⟩ := hc i (by omega)
    exact ⟨base + i, c, t, rfl, by omega, h1⟩)
  have hk := checked T (base + n) false w
  simp only [Instr.mapUpdate, Sem.run_bind, run_underlying he, getObj, Sem.run, hm, Result.andThen, hk, hf]
  simp [setObj, Sem.run, hm, setBlock, ents_succ, ent]

/-- 'm[k]' at a key that is there -/
theorem get {mt ti tp te : TypeId} (T : Ties mt ti tp te) {w : World} {M base n j : Nat} (hj : j < n) (hm : w.heap[M]? = some (.map (ents tp base n) n)) (hc : ∀ i, i < n → ∃ c t, w.heap[base + i]? = some (.cells c t (0, 0))) :
    (Instr.lookup mt (.map (some M)) (key tp (base + j)) false).run Yba.prog w = .ok (.bool true) w := by
  obtain ⟨e, he⟩ := T.map
  obtain ⟨c, t, h0⟩ := hc j hj
  have hsplit : (ents tp base n).toList = ((List.range j).map (ent tp base)) ++ ent tp base j :: ((List.range' (j + 1) (n - (j + 1))).map (ent tp base)) := by
    have : List.range n = List.range j ++ j :: List.range' (j + 1) (n - (j + 1)) := by
      rw [List.range_eq_range', List.range_eq_range', show n = j + (n - j) from by omega, ← List.range'_append_1, Nat.zero_add, show j + (n - j) - (j + 1) = n - j - 1 from by omega]
      congr 1
      rw [show n - j = (n - j - 1) + 1 from by omega, List.range'_succ]
      congr 2
    simp [ents, this]
  have hf := find_some T h0 (ent tp base j) rfl ((List.range j).map (ent tp base)) ((List.range' (j + 1) (n - (j + 1))).map (ent tp base)) (fun e he => by
    simp only [List.mem_map, List.mem_range] at he
    obtain ⟨i, hi, rfl⟩ := he
    obtain ⟨c, t, h1⟩ := hc i (by omega)
    exact ⟨base + i, c, t, rfl, by omega, h1⟩)
  rw [← hsplit] at hf
  have hk := checked T (base + j) (ents tp base n).isEmpty w
  simp only [Instr.lookup, Sem.run_bind, run_underlying he, getObj, Sem.run, hm, Result.andThen]
  simp [hk, hf, ent]
end Go.Proofs.Ybulkdnus.C
