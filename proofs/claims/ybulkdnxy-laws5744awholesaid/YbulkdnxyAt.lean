import Derived.Test.YbulkdnxyChild
namespace Go.Proofs.Ybulkdnxy
open Go.RowKit
set_option linter.unusedVariables false

theorem MapIs.kept {w w' : World} {r : Nat} {f : ByteArray → Option Value} (h : MapIs w r f) (hk : w'.heap[r]? = w.heap[r]?) : MapIs w' r f := by
  obtain ⟨es, c, hb, h1, h2⟩ := h
  exact ⟨es, c, hk.trans hb, h1, h2⟩

theorem NodeOK.kept {w w' : World} {base lo nn b : Nat} {d : Nd} (h : NodeOK w base lo nn b d) (hs : w.heap.size ≤ w'.heap.size) (hb : w'.heap[b]? = w.heap[b]?) (hk : ∀ k, lo ≤ k → k < w.heap.size → w'.heap[k]? = w.heap[k]?) : NodeOK w' base lo nn b d := by
  obtain ⟨kv, iv, h1, h2, h3⟩ := h
  refine ⟨kv, iv, hb.trans h1, ?_, ?_⟩
  · rcases h2 with h2 | ⟨r, e1, e2, e3, e4⟩
    · exact .inl h2
    · exact .inr ⟨r, e1, e2, Nat.lt_of_lt_of_le e3 hs, e4.kept (hk r e2 e3)⟩
  · rcases h3 with h3 | ⟨r, e1, e2, e3, e4⟩
    · exact .inl h3
    · exact .inr ⟨r, e1, e2, Nat.lt_of_lt_of_le e3 hs, fun j hj => (World.cell?_of_block (hk r e2 e3)).trans (e4 j hj)⟩

theorem NodeOK.below {w w' : World} {base lo nn b : Nat} {d : Nd} (h : NodeOK w base lo nn b d) (hb : Below w.heap.size w w') : NodeOK w' base lo nn b d := by
  have hlt : b < w.heap.size := by
    obtain ⟨kv, iv, h1, _⟩ := h
    rcases Nat.lt_or_ge b w.heap.size with h | h
    · exact h
    · rw [Array.getElem?_eq_none h] at h1; cases h1
  exact h.kept hb.size (hb.block b hlt) (fun k _ hk => hb.block k hk)

/-- every node of the table is built, and the path lies at pb -/
structure Ready (w : World) (base lo nn pb pl : Nat) (N : Nat → Nd) (S : Nat → Sg) : Prop where
  nodes : ∀ r, r < nn → NodeOK w base lo nn (base + r) (N r)
  segs : ∀ k, k < pl → w.cell? ⟨pb, k, none⟩ = some (segV (S k))
  pbl : pb < w.heap.size

theorem Ready.below {w w' : World} {base lo nn pb pl : Nat} {N : Nat → Nd} {S : Nat → Sg} (h : Ready w base lo nn pb pl N S) (hb : Below w.heap.size w w') : Ready w' base lo nn pb pl N S where
  nodes := fun r hr => (h.nodes r hr).below hb
  segs := fun k hk => (hb.cell (p := ⟨pb, k, none⟩) h.pbl).trans (h.segs k hk)
  pbl := Nat.lt_of_lt_of_le h.pbl hb.size

set_option maxHeartbeats 400000 in
theorem at_any (base lo nn pb pl : Nat) (N : Nat → Nd) (S : Nat → Sg) (w : World) (h : Ready w base lo nn pb pl N S) (hn : 0 < nn) (hpl : pl ≤ 4096) (hni : ∀ r, r < nn → (N r).ni ≤ 9223372036854775807) :
    Calls Yba.prog 5 #[.pointer (some ⟨base + 0, 0, none⟩), .slice (some ⟨pb, 0, none⟩) pl pl] w fun e w' => e = .returned (.pointer (ptrA base (walkTo N nn S (some 0) pl))) ∧ Below w.heap.size w w' := by
  have HR : Hid (Ready w base lo nn pb pl N S) := h
  clear h
  go_enter Yba.func5, Yba.ntmps5
  go_wp2
  go_loopw [0, 9] (fun n i wr => ∃ k r : Nat, k ≤ pl ∧ i = .int .i64 k ∧ walkTo N nn S (some 0) k = some r ∧ n = .pointer (some ⟨base + r, 0, none⟩) ∧ Below w.heap.size w wr) (fun _ i _ => pl - (intOf i).toNat)
  case atStart => exact ⟨0, 0, Nat.zero_le _, rfl, rfl, rfl, Below.refl _ _⟩
  case round =>
    obtain ⟨k, r, hk, rfl, hw, rfl, hb⟩ := hrel
    have HB : Hid (Below w.heap.size w wr) := hb
    have HW : Hid (walkTo N nn S (some 0) k = some r) := hw
    clear hb hw
    have hr : r < nn := walkTo_lt (fun q hq => by cases hq; exact hn) k r HW.out
    by_cases hlt : k < pl
    · have hR := HR.out.below HB.out
      have cs := hR.segs k hlt
      have hch := child_any base lo nn (base + r) (N r) (S k) wr (hR.nodes r hr) (hni r hr)
      have HST : Hid (walkTo N nn S (some 0) (k + 1) = stepF (N r) nn (S k)) := by show _ = _; simp only [walkTo]; rw [HW.out]; rfl
      clear hR
      cases hs : stepF (N r) nn (S k) with
      | none =>
        have HE : Hid (walkTo N nn S (some 0) pl = none) := walkTo_none (HST.out.trans hs) pl (by omega)
        rw [hs] at hch
        clear hs
        go_wp2_with (go_at_call 6; refine hch.mono ?_; clear hch; rintro e w2 ⟨rfl, hb2⟩)
        go_ret
        exact ⟨by rw [HE.out]; rfl, HB.out.trans (hb2.mono HB.out.size)⟩
      | some q =>
        rw [hs] at hch
        have HQ : Hid (walkTo N nn S (some 0) (k + 1) = some q) := HST.out.trans hs
        clear hs
        go_wp2_with (go_at_call 6; refine hch.mono ?_; clear hch; rintro e w2 ⟨rfl, hb2⟩)
        go_roundw
        case rel => exact ⟨k + 1, q, by omega, by go_num, HQ.out, rfl, HB.out.trans (hb2.mono HB.out.size)⟩
        case measure => simp [intOf]; omega
    · have hkp : k = pl := by omega
      subst hkp
      go_wp2
      go_ret
      exact ⟨by rw [HW.out]; rfl, HB.out⟩

set_option maxHeartbeats 400000 in
theorem at_nil (pb pl : Nat) (V : Nat → Value) (w : World) (h : ∀ k, k < pl → w.cell? ⟨pb, k, none⟩ = some (V k)) (hpl : pl ≤ 4096) :
    Calls Yba.prog 5 #[.pointer none, .slice (some ⟨pb, 0, none⟩) pl pl] w fun e w' => e = .returned (.pointer none) ∧ w' = w := by
  by_cases h0 : 0 < pl
  · have c0 := h 0 h0
    clear h
    have i0 : (0 : Int) < (pl : Int) := by omega
    go_enter Yba.func5, Yba.ntmps5
    go_wp2
    refine wp_loop_rounds 1 ?_
    rw [rounds_succ]
    go_wp2_with (go_at_call 6; refine (child_nil _ _).mono ?_; rintro e w2 ⟨rfl, rfl⟩)
    go_ret
    exact ⟨rfl, rfl⟩
  · have : pl = 0 := by omega
    subst this
    clear h
    go_enter Yba.func5, Yba.ntmps5
    go_wp2
    refine wp_loop_rounds 1 ?_
    rw [rounds_succ]
    go_wp2
    go_ret
    exact ⟨rfl, rfl⟩

set_option maxHeartbeats 400000 in
theorem pick_any (v : Int) (nn : Nat) (w : World) (hn : nn ≤ 4096) (h1 : -9223372036854775808 ≤ v) (h2 : v ≤ 9223372036854775807) :
    Calls Yba.prog 4 #[.int .i64 v, .int .i64 nn] w fun e w' => e = .returned (.int .i64 (pickI v nn)) ∧ w' = w := by
  by_cases hv : v < 0
  · have he : pickI v nn = -1 := by unfold pickI; rw [if_pos (.inl hv)]
    rw [he]
    clear he
    go_enter Yba.func4, Yba.ntmps4
    go_wp2
    go_ret
    exact ⟨rfl, rfl⟩
  by_cases hz : nn = 0
  · have he : pickI v nn = -1 := by unfold pickI; rw [if_pos (.inr hz)]
    subst hz
    go_enter Yba.func4, Yba.ntmps4
    go_wp2
    go_ret
    exact ⟨rfl, rfl⟩
  · have he : pickI v nn = v % nn := by unfold pickI; rw [if_neg (by omega)]
    rw [he]
    clear he
    go_enter Yba.func4, Yba.ntmps4
    go_wp2
    go_ret
    exact ⟨rfl, rfl⟩
end Go.Proofs.Ybulkdnxy
