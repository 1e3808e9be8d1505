import Derived.Test.YbulkdnxyMaps
import Derived.Deep.QuietTactic
import Derived.BigQuiet
import Derived.WalkSmall
namespace Go.Proofs.Ybulkdnxy
open Go.RowKit
set_option linter.unusedVariables false

/-- one node's data -/
structure Nd where
  nk : Nat
  K : Nat → ByteArray
  nd : Nat
  D : Nat → Int
  ni : Nat
  I : Nat → Int
  fm : Int

/-- one segment of the path -/
structure Sg where
  kind : Int
  K : ByteArray
  I : Int

def pickI (v : Int) (nn : Nat) : Int := if v < 0 ∨ nn = 0 then -1 else v % nn
def pickF (v : Int) (nn : Nat) : Option Nat := if pickI v nn < 0 then none else some (pickI v nn).toNat
def kidF (d : Nd) (nn j : Nat) : Option Nat := if j < d.nd then pickF (d.D j) nn else none
def keyF (d : Nd) (nn : Nat) : Nat → ByteArray → Option (Option Nat)
  | 0, _ => none
  | m + 1, k => if k = d.K m then some (kidF d nn m) else keyF d nn m k
def stepF (d : Nd) (nn : Nat) (s : Sg) : Option Nat :=
  if s.kind % 3 = 0 then (keyF d nn d.nk s.K).getD none
  else if s.kind % 3 = 1 then (if 0 ≤ s.I ∧ s.I < d.ni then pickF (d.I s.I.toNat) nn else none)
  else pickF d.fm nn

def ptrA (base : Nat) (o : Option Nat) : Option Addr := o.map fun r => ⟨base + r, 0, none⟩

def nodeObj (kv iv : Value) (fv : Option Addr) : Obj := .cells #[.slice none 0 0, .slice none 0 0, .slice none 0 0, .slice none 0 0, .pointer none, kv, iv, .pointer fv] 31 (0, 0)

def KeysOK (w : World) (base lo nn : Nat) (kv : Value) (d : Nd) : Prop :=
  (d.nk = 0 ∧ kv = .map none) ∨ ∃ r, kv = .map (some r) ∧ lo ≤ r ∧ r < w.heap.size ∧ MapIs w r (fun k => (keyF d nn d.nk k).map fun o => .pointer (ptrA base o))
def ItemsOK (w : World) (base lo nn : Nat) (iv : Value) (d : Nd) : Prop :=
  (d.ni = 0 ∧ iv = .slice none 0 0) ∨ ∃ r, iv = .slice (some ⟨r, 0, none⟩) d.ni d.ni ∧ lo ≤ r ∧ r < w.heap.size ∧ ∀ j, j < d.ni → w.cell? ⟨r, j, none⟩ = some (.pointer (ptrA base (pickF (d.I j) nn)))
def NodeOK (w : World) (base lo nn b : Nat) (d : Nd) : Prop :=
  ∃ kv iv, w.heap[b]? = some (nodeObj kv iv (ptrA base (pickF d.fm nn))) ∧ KeysOK w base lo nn kv d ∧ ItemsOK w base lo nn iv d

def segV (s : Sg) : Value := if s.kind % 3 = 0 then .iface 41 (.string s.K) else if s.kind % 3 = 1 then .iface 44 (.int .i64 s.I) else .iface 46 (.agg #[])

theorem cells_of_node {w : World} {b : Nat} {kv iv : Value} {fv : Option Addr} (h : w.heap[b]? = some (nodeObj kv iv fv)) :
    w.cell? ⟨b, 5, none⟩ = some kv ∧ w.cell? ⟨b, 6, none⟩ = some iv ∧ w.cell? ⟨b, 7, none⟩ = some (.pointer fv) := by
  refine ⟨?_, ?_, ?_⟩ <;> simp [World.cell?, h, nodeObj]

theorem zero25 (w : World) : (zeroValue 25).run Yba.prog w = .ok (.pointer none) w := by
  have h : (Yba.prog.info? 25).map (fun i => (i.zero, i.size, i.bytes)) = some (some (.pointer none), 1, 8) := by kernel_rfl
  obtain ⟨i, hi, hz, _⟩ := info_parts h
  simp [zeroValue, typeInfo, hi, hz]

theorem info41 : (Yba.prog.info? 41).map (fun i => (i.zero, i.size, i.bytes)) = some (some (.string ByteArray.empty), 1, 16) := by kernel_rfl
theorem info44 : (Yba.prog.info? 44).map (fun i => (i.zero, i.size, i.bytes)) = some (some (.int .i64 0), 1, 8) := by kernel_rfl

theorem ta_41 (v : Value) (w : World) : (Instr.typeAssert (.iface 41 v) 43 41 true).run Yba.prog w = .ok (.tuple #[v, .bool true]) w := by
  simp [Instr.typeAssert, run_underlying Yba.underlying41]
theorem ta_44 (v : Value) (w : World) : (Instr.typeAssert (.iface 44 v) 43 44 true).run Yba.prog w = .ok (.tuple #[v, .bool true]) w := by
  simp [Instr.typeAssert, run_underlying Yba.underlying44]
theorem ta_46 (v : Value) (w : World) : (Instr.typeAssert (.iface 46 v) 43 46 true).run Yba.prog w = .ok (.tuple #[v, .bool true]) w := by
  simp [Instr.typeAssert, run_underlying Yba.underlying46]
theorem tm_41 (t : TypeId) (v : Value) (w : World) (h : t ≠ 41) : (Instr.typeAssert (.iface t v) 43 41 true).run Yba.prog w = .ok (.tuple #[.string ByteArray.empty, .bool false]) w := by
  obtain ⟨i, hi, hz, _⟩ := info_parts info41
  simp [Instr.typeAssert, run_underlying Yba.underlying41, h, zeroValue, typeInfo, hi, hz]
theorem tm_44 (t : TypeId) (v : Value) (w : World) (h : t ≠ 44) : (Instr.typeAssert (.iface t v) 43 44 true).run Yba.prog w = .ok (.tuple #[.int .i64 0, .bool false]) w := by
  obtain ⟨i, hi, hz, _⟩ := info_parts info44
  simp [Instr.typeAssert, run_underlying Yba.underlying44, h, zeroValue, typeInfo, hi, hz]

set_option maxHeartbeats 400000 in
theorem child_key (base lo nn b : Nat) (d : Nd) (k : ByteArray) (w : World) (h : NodeOK w base lo nn b d) :
    Calls Yba.prog 6 #[.pointer (some ⟨b, 0, none⟩), .iface 41 (.string k)] w fun e w' => e = .returned (.pointer (ptrA base ((keyF d nn d.nk k).getD none))) ∧ w' = w := by
  have h1 := ta_41 (.string k) w
  obtain ⟨kv, iv, hb, hk, _⟩ := h
  obtain ⟨c5, _, _⟩ := cells_of_node hb
  rcases hk with ⟨hn, rfl⟩ | ⟨r, rfl, _, _, hm⟩
  · have hl := run_look_nil (P := Yba.prog) Yba.underlying29 Yba.underlying9 w (zero25 w) k
    clear hb
    rw [hn]
    go_enter Yba.func6, Yba.ntmps6
    go_wp2
    go_ret
    exact ⟨rfl, rfl⟩
  · have hl := run_look (P := Yba.prog) Yba.underlying29 Yba.underlying9 w (zero25 w) r _ hm k
    have he : ((keyF d nn d.nk k).map fun o => Value.pointer (ptrA base o)).getD (.pointer none) = .pointer (ptrA base ((keyF d nn d.nk k).getD none)) := by
      cases keyF d nn d.nk k <;> rfl
    rw [he] at hl
    clear hb hm he
    generalize ptrA base ((keyF d nn d.nk k).getD none) = pp at *
    go_enter Yba.func6, Yba.ntmps6
    go_wp2
    go_ret
    exact ⟨rfl, rfl⟩

set_option maxHeartbeats 400000 in
theorem child_index (base lo nn b : Nat) (d : Nd) (k : Int) (w : World) (h : NodeOK w base lo nn b d) (hi1 : d.ni ≤ 9223372036854775807) :
    Calls Yba.prog 6 #[.pointer (some ⟨b, 0, none⟩), .iface 44 (.int .i64 k)] w fun e w' => e = .returned (.pointer (ptrA base (if 0 ≤ k ∧ k < d.ni then pickF (d.I k.toNat) nn else none))) ∧ w' = w := by
  have h1 := tm_41 44 (.int .i64 k) w (by decide)
  have h2 := ta_44 (.int .i64 k) w
  obtain ⟨kv, iv, hb, _, hk⟩ := h
  obtain ⟨_, c6, _⟩ := cells_of_node hb
  clear hb
  by_cases hk0 : 0 ≤ k
  · obtain ⟨j, rfl⟩ := Int.eq_ofNat_of_zero_le hk0
    rcases hk with ⟨hn, rfl⟩ | ⟨r, rfl, _, _, hm⟩
    · rw [if_neg (by omega)]
      clear hn
      go_enter Yba.func6, Yba.ntmps6
      go_wp2
      go_ret
      exact ⟨rfl, rfl⟩
    · by_cases hlt : j < d.ni
      · rw [if_pos (by omega)]
        have cj := hm j hlt
        rw [Int.toNat_natCast]
        generalize ptrA base (pickF (d.I j) nn) = pp at *
        clear hm
        go_enter Yba.func6, Yba.ntmps6
        go_wp2
        go_ret
        exact ⟨rfl, rfl⟩
      · rw [if_neg (by omega)]
        clear hm
        go_enter Yba.func6, Yba.ntmps6
        go_wp2
        go_ret
        exact ⟨rfl, rfl⟩
  · rw [if_neg (by omega)]
    clear hk
    go_enter Yba.func6, Yba.ntmps6
    go_wp2
    go_ret
    exact ⟨rfl, rfl⟩

set_option maxHeartbeats 400000 in
theorem child_front (base lo nn b : Nat) (d : Nd) (w : World) (h : NodeOK w base lo nn b d) :
    Calls Yba.prog 6 #[.pointer (some ⟨b, 0, none⟩), .iface 46 (.agg #[])] w fun e w' => e = .returned (.pointer (ptrA base (pickF d.fm nn))) ∧ Below w.heap.size w w' := by
  have h1 := tm_41 46 (.agg #[]) w (by decide)
  have h2 := tm_44 46 (.agg #[]) w (by decide)
  have h3 := ta_46 (.agg #[]) w
  obtain ⟨kv, iv, hb, _, _⟩ := h
  obtain ⟨_, _, c7⟩ := cells_of_node hb
  have hlt : b < w.heap.size := World.block_lt_of_cell? w _ c7
  clear hb
  generalize ptrA base (pickF d.fm nn) = pp at *
  go_enter Yba.func6, Yba.ntmps6
  go_wp2
  go_ret
  exact ⟨rfl, (Below.refl _ _).alloc (Nat.le_refl _) _⟩

theorem child_any (base lo nn b : Nat) (d : Nd) (s : Sg) (w : World) (h : NodeOK w base lo nn b d) (hi1 : d.ni ≤ 9223372036854775807) :
    Calls Yba.prog 6 #[.pointer (some ⟨b, 0, none⟩), segV s] w fun e w' => e = .returned (.pointer (ptrA base (stepF d nn s))) ∧ Below w.heap.size w w' := by
  unfold segV stepF
  by_cases h0 : s.kind % 3 = 0
  · rw [if_pos h0, if_pos h0]
    exact (child_key base lo nn b d s.K w h).mono fun e w' h => ⟨h.1, by rw [h.2]; exact Below.refl _ _⟩
  · rw [if_neg h0, if_neg h0]
    by_cases h1 : s.kind % 3 = 1
    · rw [if_pos h1, if_pos h1]
      exact (child_index base lo nn b d s.I w h hi1).mono fun e w' h => ⟨h.1, by rw [h.2]; exact Below.refl _ _⟩
    · rw [if_neg h1, if_neg h1]
      exact child_front base lo nn b d w h

set_option maxHeartbeats 400000 in
theorem child_nil (v : Value) (w : World) : Calls Yba.prog 6 #[.pointer none, v] w fun e w' => e = .returned (.pointer none) ∧ w' = w := by
  go_enter Yba.func6, Yba.ntmps6
  go_wp2
  go_ret
  exact ⟨rfl, rfl⟩

def walkTo (N : Nat → Nd) (nn : Nat) (S : Nat → Sg) (start : Option Nat) : Nat → Option Nat
  | 0 => start
  | k + 1 => (walkTo N nn S start k).bind fun r => stepF (N r) nn (S k)

theorem pickF_lt {v : Int} {nn r : Nat} (h : pickF v nn = some r) : r < nn := by
  unfold pickF at h
  split at h
  · cases h
  · rename_i hn
    cases h
    unfold pickI at hn ⊢
    split at hn
    · omega
    · rename_i hv
      have h1 := Int.emod_lt_of_pos v (show (0 : Int) < (nn : Int) by omega)
      rw [if_neg hv]
      omega

theorem keyF_lt {d : Nd} {nn : Nat} {k : ByteArray} {r : Nat} : ∀ {m : Nat}, (keyF d nn m k).getD none = some r → r < nn
  | 0, h => by simp [keyF] at h
  | m + 1, h => by
    simp only [keyF] at h
    split at h
    · simp only [Option.getD_some] at h
      unfold kidF at h
      split at h
      · exact pickF_lt h
      · cases h
    · exact keyF_lt h

theorem stepF_lt {d : Nd} {nn r : Nat} {s : Sg} (h : stepF d nn s = some r) : r < nn := by
  unfold stepF at h
  split at h
  · exact keyF_lt h
  · split at h
    · split at h
      · exact pickF_lt h
      · cases h
    · exact pickF_lt h

theorem walkTo_lt {N : Nat → Nd} {nn : Nat} {S : Nat → Sg} {start : Option Nat} (hs : ∀ r, start = some r → r < nn) : ∀ (k r : Nat), walkTo N nn S start k = some r → r < nn
  | 0, r, h => hs r h
  | k + 1, r, h => by
    simp only [walkTo] at h
    obtain ⟨q, _, hq⟩ := Option.bind_eq_some_iff.1 h
    exact stepF_lt hq

theorem walkTo_none {N : Nat → Nd} {nn : Nat} {S : Nat → Sg} {start : Option Nat} {k : Nat} (h : walkTo N nn S start k = none) : ∀ j, k ≤ j → walkTo N nn S start j = none := by
  intro j
  induction j with
  | zero => intro hj; have : k = 0 := by omega
            subst this; exact h
  | succ j ih =>
    intro hj
    by_cases e : k = j + 1
    · subst e; exact h
    · simp only [walkTo]; rw [ih (by omega)]; rfl
end Go.Proofs.Ybulkdnxy
