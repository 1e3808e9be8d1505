import Derived.Test.YbulkdnxyRows
import Derived.WalkKit
import Derived.WalkSpells
import Derived.WalkLawsBesides
import Derived.MapKept
namespace Go.Proofs.Ybulkdnxy
open Go.RowKit

/-! A map whose keys are strings, as the model keeps it: its entries, looked up and updated. -/

theorem bq (a b : ByteArray) : (a == b) = decide (a = b) := by
  by_cases h : a = b
  · rw [(MapKept.bytes_beq a b).2 h]; simp [h]
  · have : ¬ (a == b) = true := fun e => h ((MapKept.bytes_beq a b).1 e)
    simp only [Bool.not_eq_true] at this
    rw [this]; simp [h]

def StrKeys (es : List MapEntry) : Prop := ∀ e ∈ es, ∃ s, e.key = .string s

def keyIs (e : MapEntry) (k : ByteArray) : Bool := match e.key with
  | .string s => decide (k = s)
  | _ => false

def look (es : List MapEntry) (k : ByteArray) : Option Value := (es.find? (keyIs · k)).map (·.val)

theorem look_cons (e : MapEntry) (es : List MapEntry) (k : ByteArray) : look (e :: es) k = if keyIs e k then some e.val else look es k := by
  unfold look
  by_cases h : keyIs e k = true
  · simp [h]
  · simp [h]

theorem look_nil (k : ByteArray) : look [] k = none := rfl

theorem keyIs_string (e : MapEntry) (s k : ByteArray) (h : e.key = .string s) : keyIs e k = decide (k = s) := by simp [keyIs, h]

theorem look_push (es : List MapEntry) (e : MapEntry) (k : ByteArray) : look (es ++ [e]) k = (look es k).or (if keyIs e k then some e.val else none) := by
  induction es with
  | nil => rw [List.nil_append, look_cons, look_nil]; simp
  | cons x r ih =>
    rw [List.cons_append, look_cons, look_cons, ih]
    split <;> simp

theorem find_cases (k : ByteArray) (v : Value) : ∀ (es : List MapEntry) (i : Nat), StrKeys es →
    (Instr.findNow .string (.string k) es i = some none ∧ look es k = none) ∨
    ∃ j v0, Instr.findNow .string (.string k) es i = some (some (i + j, v0)) ∧ look es k = some v0 ∧ (es[j]?).map (·.key) = some (.string k) ∧
      (∀ k', look (es.modify j fun e => { e with key := .string k, val := v }) k' = if k' = k then some v else look es k') ∧ StrKeys (es.modify j fun e => { e with key := .string k, val := v })
  | [], _, _ => .inl ⟨rfl, rfl⟩
  | e :: es, i, h => by
    obtain ⟨s, hs⟩ := h e (by simp)
    have hr : StrKeys es := fun x hx => h x (by simp [hx])
    by_cases hks : k = s
    · subst hks
      refine .inr ⟨0, e.val, ?_, ?_, ?_, ?_, ?_⟩
      · simp [Instr.findNow, Instr.sameNow, hs, bq]
      · rw [look_cons, keyIs_string e k k hs]; simp
      · simp [hs]
      · intro k'
        rw [List.modify_zero_cons, look_cons, look_cons, keyIs_string e k k' hs, keyIs_string _ k k' rfl]
        by_cases e1 : k' = k
        · simp [e1]
        · simp [e1]
      · intro x hx
        rw [List.modify_zero_cons] at hx
        rcases List.mem_cons.1 hx with rfl | hx
        · exact ⟨k, rfl⟩
        · exact hr x hx
    · have hne : (k == s) = false := by rw [bq]; simp [hks]
      have hne' : decide (k = s) = false := by simp [hks]
      rcases find_cases k v es (i + 1) hr with ⟨h1, h2⟩ | ⟨j, v0, h1, h2, h3, h4, h5⟩
      · refine .inl ⟨?_, ?_⟩
        · simp [Instr.findNow, Instr.sameNow, hs, hne, h1]
        · rw [look_cons, keyIs_string e s k hs, hne']; simpa using h2
      · refine .inr ⟨j + 1, v0, ?_, ?_, ?_, ?_, ?_⟩
        · simp [Instr.findNow, Instr.sameNow, hs, hne, h1]; omega
        · rw [look_cons, keyIs_string e s k hs, hne']; simpa using h2
        · simpa using h3
        · intro k'
          rw [List.modify_succ_cons, look_cons, look_cons, h4 k', keyIs_string e s k' hs]
          by_cases e1 : k' = k
          · subst e1; simp [hks]
          · simp [e1]
        · intro x hx
          rw [List.modify_succ_cons] at hx
          rcases List.mem_cons.1 hx with rfl | hx
          · exact ⟨s, hs⟩
          · exact h5 x hx

/-- one block of the heap put anew -/
def putB (w : World) (r : Nat) (o : Obj) : World := { w with heap := w.heap.setIfInBounds r o }

/-- the map in block r answers as f says -/
def MapIs (w : World) (r : Nat) (f : ByteArray → Option Value) : Prop := ∃ es c, w.heap[r]? = some (.map es c) ∧ StrKeys es.toList ∧ ∀ k, look es.toList k = f k

theorem run_update {P : Program} {mty kt et : TypeId} (hm : P.underlying mty = some (.map kt et)) (hk : P.underlying kt = some .string) (w : World) (r : Nat) (f : ByteArray → Option Value) (h : MapIs w r f) (k : ByteArray) (v : Value) :
    ∃ o, (Instr.mapUpdate mty (.map (some r)) (.string k) v).run P w = .ok () (putB w r o) ∧ MapIs (putB w r o) r (fun k' => if k' = k then some v else f k') := by
  obtain ⟨es, c, hb, hs, hf⟩ := h
  have hlt : r < w.heap.size := by
    rcases Nat.lt_or_ge r w.heap.size with h | h
    · exact h
    · rw [Array.getElem?_eq_none h] at hb; cases hb
  have hck : (Instr.checkKey false 10000 kt (.string k)).run P w = .ok () w := by
    rw [show (10000 : Nat) = 9999 + 1 from rfl, Instr.checkKey]
    simp [run_underlying hk]
  rcases find_cases k v es.toList 0 hs with ⟨h1, h2⟩ | ⟨j, v0, h1, h2, h3, h4, h5⟩
  · refine ⟨.map (es.push { key := .string k, val := v, born := c }) (c + 1), ?_, es.push { key := .string k, val := v, born := c }, c + 1, ?_, ?_, ?_⟩
    · simp [Instr.mapUpdate, run_underlying hm, MapKept.run_getObj_map hb, hck, Instr.findKey, run_underlying hk, h1, MapKept.run_setObj_map _ hb, putB]
    · show (w.heap.setIfInBounds r _)[r]? = _
      simp [hlt]
    · intro e he
      rw [Array.toList_push, List.mem_append] at he
      rcases he with he | he
      · exact hs e he
      · simp at he; subst he; exact ⟨k, rfl⟩
    · intro k'
      rw [Array.toList_push, look_push, hf k', keyIs_string _ k k' rfl]
      by_cases e1 : k' = k
      · subst e1
        have : f k' = none := by rw [← hf k', h2]
        simp [this]
      · simp [e1]
  · have hkey : (es[j]?).map (·.key) = some (.string k) := by simpa using h3
    refine ⟨.map (es.modify j fun e => { e with key := .string k, val := v }) c, ?_, es.modify j (fun e => { e with key := .string k, val := v }), c, ?_, ?_, ?_⟩
    · have hst : (Instr.keyThatStays (((es[j]?).map (·.key)).getD (.string k)) (.string k)).run P w = .ok (.string k) w := by
        rw [hkey]; simp [Instr.keyThatStays, Instr.sameBits, bq]
      simp only [Nat.zero_add] at h1
      simp [Instr.mapUpdate, run_underlying hm, MapKept.run_getObj_map hb, hck, Instr.findKey, run_underlying hk, h1, hst, MapKept.run_setObj_map _ hb, putB]
    · show (w.heap.setIfInBounds r _)[r]? = _
      simp [hlt]
    · simpa using h5
    · intro k'
      have := h4 k'
      rw [hf k'] at this
      simpa using this

theorem run_look {P : Program} {mty kt et : TypeId} {z : Value} (hm : P.underlying mty = some (.map kt et)) (hk : P.underlying kt = some .string) (w : World) (hz : (zeroValue et).run P w = .ok z w) (r : Nat) (f : ByteArray → Option Value) (h : MapIs w r f) (k : ByteArray) :
    (Instr.lookup mty (.map (some r)) (.string k) false).run P w = .ok ((f k).getD z) w := by
  obtain ⟨es, c, hb, hs, hf⟩ := h
  have hck : ∀ e, (Instr.checkKey e 10000 kt (.string k)).run P w = .ok () w := fun e => by
    rw [show (10000 : Nat) = 9999 + 1 from rfl, Instr.checkKey]
    simp [run_underlying hk]
  rcases find_cases k .nilFunc es.toList 0 hs with ⟨h1, h2⟩ | ⟨j, v0, h1, h2, h3, h4, h5⟩
  · rw [← hf k, h2]
    simp [Instr.lookup, run_underlying hm, MapKept.run_getObj_map hb, hck, Instr.findKey, run_underlying hk, h1, hz]
  · rw [← hf k, h2]
    simp [Instr.lookup, run_underlying hm, MapKept.run_getObj_map hb, hck, Instr.findKey, run_underlying hk, h1]

theorem run_look_nil {P : Program} {mty kt et : TypeId} {z : Value} (hm : P.underlying mty = some (.map kt et)) (hk : P.underlying kt = some .string) (w : World) (hz : (zeroValue et).run P w = .ok z w) (k : ByteArray) :
    (Instr.lookup mty (.map none) (.string k) false).run P w = .ok z w := by
  have hck : ∀ e, (Instr.checkKey e 10000 kt (.string k)).run P w = .ok () w := fun e => by
    rw [show (10000 : Nat) = 9999 + 1 from rfl, Instr.checkKey]
    simp [run_underlying hk]
  simp [Instr.lookup, run_underlying hm, hck, Instr.findKey, run_underlying hk, Instr.findNow, hz]

end Go.Proofs.Ybulkdnxy
