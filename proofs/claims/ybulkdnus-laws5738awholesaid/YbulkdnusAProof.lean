import Derived.Test.YbulkdnusAMain
import Derived.ProofKit
import Derived.OpenShut
import Derived.ShutString
import Derived.ChangeOld
import Derived.Below
import Derived.SizedLaws
import Derived.Deep.Slices
namespace Go.Proofs.Ybulkdnus.lawS5738AWhole
open Go.ChangeShapes Go.WideShapes Go.ChangeAt Go.RowKit Go.Deep
set_option linter.unusedVariables false

theorem own : ownKnob Yba.prog.godebug = none := by kernel_rfl
theorem laidOut : laidOutB Yba.prog = true := by kernel_rfl
theorem cells23 : Yba.prog.cellsOf 23 = 1 := by kernel_rfl
theorem cells5 : Yba.prog.cellsOf 5 = 1 := by kernel_rfl
theorem bytes5 : Yba.prog.bytesOf 5 = 1 := by kernel_rfl

theorem mem_weightsAll {H : Type} {P : Program} {e : TypeId} {d : DataW H} {n : Nat} : ∀ {ds : List (DataW H)}, d ∈ ds → n ∈ d.weights P e → n ∈ DataW.weightsAll P e ds
  | [], h, _ => by cases h
  | x :: r, h, hn => by
    simp only [DataW.weightsAll, List.mem_append]
    rcases List.mem_cons.1 h with rfl | h
    · exact .inl hn
    · exact .inr (mem_weightsAll h hn)

/-- one piece, opened -/
theorem piece {H : Type} {enc : TypeId × Value → H} {w : World} {spare : Nat → Bool} {held : Bool} {fuel : Nat} {v : Value} {x : DataW H × List MemPlace}
    (h : DataW.trod enc Yba.prog w 0 spare held fuel 23 [v] = some x) (hw : ∀ n ∈ x.1.weights Yba.prog 23, n ≤ reachBytes) :
    ∃ (A : Option Addr) (L C : Nat) (Z : Nat → Int), v = .slice A L C ∧ Piece w A L Z ∧ L ≤ 140737488351232 := by
  rcases open_ints Yba.underlying23 Yba.underlying5 cells5 h with ⟨hcs, _⟩ | ⟨a, len, cap, zs, hcs, _, hl, hm, hz, hx, hcell, _⟩
  · simp at hcs
    exact ⟨none, 0, 0, fun _ => 0, hcs, ⟨fun _ => rfl, fun h => absurd h (Nat.not_lt_zero _)⟩, by omega⟩
  · simp at hcs
    have hlz : len ≤ zs.length := by rw [hz]; split <;> omega
    refine ⟨some a, len, cap, fun j => zs.getD j 0, hcs, ⟨(fun h => by simp at h), (fun h0 => ?_)⟩, ?_⟩
    · obtain ⟨b, off, rfl, hc⟩ := ints_at hcell (by omega)
      exact ⟨b, off, rfl, fun j hj => hc j (by omega)⟩
    · have hb := hw (((lits (H := H) IntKind.u8 (zs.take len)).length + (lits (H := H) IntKind.u8 (zs.drop len)).length) * Yba.prog.bytesOf 5) (by
        rw [hx]; simp [DataW.weights, Yba.underlying23])
      rw [bytes5] at hb
      simp only [lits, List.length_map, List.length_take, List.length_drop, reachBytes] at hb
      omega

theorem walk {H : Type} {enc : TypeId × Value → H} (fixed : Int) (a0 : Option Addr) (len0 cap0 : Nat) (w : World) {spare : Nat → Bool} {held : Bool} {fuel : Nat} {x : DataW H × List MemPlace}
    (h : DataW.trod enc Yba.prog w 0 spare held fuel 22 [.slice a0 len0 cap0] = some x) (hw : ∀ n ∈ x.1.weights Yba.prog 22, n ≤ reachBytes) :
    Calls Yba.prog 3 #[.int .i64 fixed, .slice a0 len0 cap0] w fun e w' => e = .returned (.bool true) ∧ Below w.heap.size w w' := by
  rcases open_slice1 Yba.underlying22 cells23 h with ⟨hcs, _⟩ | ⟨a, len, cap, m, n, V, D, Pl, hcs, _, hl, hm, hmm, hx, hel⟩
  · simp at hcs
    obtain ⟨rfl, rfl, rfl⟩ := hcs
    exact walk_nil fixed w
  · simp at hcs
    obtain ⟨rfl, rfl, rfl⟩ := hcs
    unfold maxLen at hm
    by_cases hbig : 1048576 < len0
    · exact walk_big fixed _ len0 cap0 w hbig (by omega)
    by_cases hz : len0 = 0
    · subst hz; exact walk_zero fixed a cap0 w
    have hle : len0 ≤ m := by rw [hmm]; split <;> omega
    have hp : ∀ i, i < len0 → ∃ q : Option Addr × Nat × Nat × (Nat → Int), V i = .slice q.1 q.2.1 q.2.2.1 ∧ Piece w q.1 q.2.1 q.2.2.2 ∧ q.2.1 ≤ 140737488351232 := fun i hi => by
      obtain ⟨h1, h2⟩ := hel i (by omega)
      obtain ⟨A, L, C, Z, e1, e2, e3⟩ := piece h2 (fun k hk => hw k (by
        rw [hx]
        simp only [DataW.weights, Yba.underlying22, List.mem_cons, List.mem_append]
        exact .inr (.inl (mem_weightsAll (d := D i) (List.mem_map.2 ⟨i, List.mem_range.2 hi, rfl⟩) hk))))
      exact ⟨(A, L, C, Z), e1, e2, e3⟩
    obtain ⟨Q, hQ⟩ := choose_lt hp
    have hcv := fun i (hi : i < len0) => (hel i (by omega)).1
    obtain ⟨b, off, spot⟩ := a
    have hspot : spot = none := by
      have h1 : w.cell? ⟨b, off, spot⟩ = some (V 0) := by simpa [Addr.add] using hcv 0 (by omega)
      simpa using World.cell?_spot h1
    subst hspot
    exact walk_full fixed b off len0 cap0 (fun i => (Q i).1) (fun i => (Q i).2.1) (fun i => (Q i).2.2.1) (fun i => (Q i).2.2.2) w (fun i hi => by
      have := hcv i hi
      rw [add_plain] at this
      rw [this, (hQ i hi).1]) (fun i hi => (hQ i hi).2.1) (by omega) (by omega) (fun i hi => (hQ i hi).2.2)

set_option maxRecDepth 100000 in
theorem lifted (os : Os) (started : os.Started) (H : Type) (enc : TypeId × Value → H) :
    ReturnsInHanded {} Yba.checked os 3 .any (Rows.lawS5738AWholeSpec.pre6 enc Yba.prog Yba.f3 Rows.lawS5738AWholeRow.domain false) (Rows.lawS5738AWholeSpec.post enc Yba.prog Yba.f3 false true false false) := by
  refine returnsInHanded_of_change_sized (C := Yba.checked) own started (by kernel_rfl) Yba.func3
    (ChangeSpec.witness6 (enc := enc) (C := Yba.checked) false ⟨#[], #[.int .i64 0, .slice none 0 0], []⟩ 8 (by kernel_rfl) (by kernel_rfl) (by kernel_rfl) (by kernel_rfl)) ?_
  intro W base args ds gs before hval0 hW hcnd hsz0 _
  have hsz : (DataW.weightsEach Yba.prog (Yba.f3.params.toList ++ Rows.lawS5738AWholeSpec.plain.varTypes Yba.prog) (ds ++ gs)).all (· ≤ reachBytes) = true := hsz0
  have hval : ∀ (j : Nat) t v, Yba.f3.params[j]? = some t → args[j]? = some v → Value.okWide Yba.prog W .any base t v := hval0
  have hW' := hW
  obtain ⟨p, q, hA0, hV, rfl, hfz, hnd⟩ := hW
  have hA : DataW.TrodAll enc Yba.prog W 0 (fun _ => true) true Yba.f3.params.toList args.toList ds p := hA0
  rw [Yba.params3] at hA hval hsz
  obtain ⟨v0, vs0, d0, ds0, p0, q0, hargs, rfl, rfl, h0, r0⟩ := trodAll_cons hA
  obtain ⟨v1, vs1, d1, ds1, p1, q1, rfl, rfl, rfl, h1, r1⟩ := trodAll_cons r0
  obtain ⟨rfl, rfl, rfl⟩ := trodAll_nil r1
  obtain rfl : args = #[v0, v1] := by cases args; simp_all
  obtain ⟨rfl, rfl⟩ := trodVars_none hV
  obtain ⟨a0, rfl, rfl, rfl, w0⟩ := open_int Yba.underlying3 (hval 0 3 v0 rfl rfl) h0
  obtain ⟨a1, len1, cap1, rfl⟩ := okWide_slice Yba.underlying22 (hval 1 22 v1 rfl rfl)
  have k1 := h1
  have lt1 : ∀ x ∈ p1, x.block < W.heap.size := by obtain ⟨m, hm⟩ := k1; exact DataW.trod_lt m _ _ _ hm
  obtain ⟨fuel, hf⟩ := h1
  have hwt : ∀ n ∈ d1.weights Yba.prog 22, n ≤ reachBytes := fun n hn => by
    have := List.all_eq_true.1 hsz n (DataW.weights_mem_each (j := 1) (t := 22) rfl rfl n hn)
    simpa using this
  clear hA0 hval0
  refine (walk a0 a1 len1 cap1 W (x := (d1, p1)) (by simpa [Value.cells] using hf) hwt).mono fun e W' ⟨he, bel⟩ => ?_
  subst he
  exact ⟨_, rfl, _, _, _, [], _, [], hW', trodAll_mk1 (shut_bool Yba.underlying4 _), (trodAll_cons_mk (shut_int Yba.underlying3 w0) (trodAll_cons_mk (Below.trod laidOut (by kernel_rfl) (of_decide_eq_true (by kernel_rfl)) k1 bel lt1) trodAll_mk0)), rfl, bel.frame _, fun h => by cases h⟩

theorem over : Rows.lawS5738AWholeRow.holds Yba.pinned (OpenSpec.ofChange Rows.lawS5738AWholeSpec) :=
  OpenClaim.holds_of_wide 3 Yba.f3 rfl rfl rfl rfl rfl rfl rfl ⟨rfl, rfl, rfl, rfl, rfl⟩ rfl rfl rfl rfl rfl (by kernel_rfl) Yba.func3 (by kernel_rfl)
    (of_decide_eq_true (by kernel_rfl)) (by unfold Func.isWrapper; first | (rw [if_pos (by decide +kernel)]; kernel_rfl) | (rw [if_neg (by decide +kernel)]; exact ⟨rfl, rfl⟩))
    (fun os started H enc _ => lifted os started H enc)

/-- THE STATEMENT -/
theorem proved : Rows.LawS5738AWholeSaid := over
end Go.Proofs.Ybulkdnus.lawS5738AWhole
