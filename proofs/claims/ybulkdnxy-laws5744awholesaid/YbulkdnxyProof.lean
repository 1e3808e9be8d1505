import Derived.Test.YbulkdnxyRows
import Derived.Test.YbulkdnxyMain2
import Derived.Test.YbulkdnxyOpen
import Derived.Test.YbulkdnxyBig
namespace Go.Proofs.Ybulkdnxy.lawS5744AWhole
open Go.ChangeShapes Go.WideShapes Go.ChangeAt Go.RowKit Go.Deep
set_option linter.unusedVariables false

theorem walk {H : Type} {enc : TypeId × Value → H} (na sa : Option Addr) (nn nc pl pc : Nat) (w : World) {spare : Nat → Bool} {held : Bool} {f1 f2 : Nat} {x y : DataW H × List MemPlace}
    (h1 : DataW.trod enc Yba.prog w 0 spare held f1 22 [.slice na nn nc] = some x) (hw : ∀ n ∈ x.1.weights Yba.prog 22, n ≤ reachBytes)
    (h2 : DataW.trod enc Yba.prog w 0 spare held f2 23 [.slice sa pl pc] = some y) :
    Calls Yba.prog 3 #[.slice na nn nc, .slice sa pl pc] w fun e w' => e = .returned (.bool true) ∧ Below w.heap.size w w' := by
  obtain ⟨hn, X, hX⟩ := nodes h1 hw
  obtain ⟨hp, S, hS⟩ := path h2
  by_cases hb1 : 4096 < nn
  · exact walk_big1 na sa nn nc pl pc w hb1 hn
  by_cases hb2 : 4096 < pl
  · exact walk_big2 na sa nn nc pl pc w (by omega) hb2 hp
  exact walk_main na sa nn nc pl pc X S w hX hS (by omega) (by omega)

set_option maxRecDepth 100000 in
theorem lifted (os : Os) (started : os.Started) (H : Type) (enc : TypeId × Value → H) :
    ReturnsInHanded {} Yba.checked os 3 .any (Rows.lawS5744AWholeSpec.pre6 enc Yba.prog Yba.f3 Rows.lawS5744AWholeRow.domain false) (Rows.lawS5744AWholeSpec.post enc Yba.prog Yba.f3 false true false false) := by
  refine returnsInHanded_of_change_sized (C := Yba.checked) own started (by kernel_rfl) Yba.func3
    (ChangeSpec.witness6 (enc := enc) (C := Yba.checked) false ⟨#[], #[.slice none 0 0, .slice none 0 0], []⟩ 8 (by kernel_rfl) (by kernel_rfl) (by kernel_rfl) (by kernel_rfl)) ?_
  intro W base args ds gs before hval0 hW hcnd hsz0 _
  have hsz : (DataW.weightsEach Yba.prog (Yba.f3.params.toList ++ Rows.lawS5744AWholeSpec.plain.varTypes Yba.prog) (ds ++ gs)).all (· ≤ reachBytes) = true := hsz0
  have hval : ∀ (j : Nat) t v, Yba.f3.params[j]? = some t → args[j]? = some v → Value.okWide Yba.prog W .any base t v := hval0
  have hW' := hW
  obtain ⟨p, q, hA0, hV, rfl, hfz, hnd⟩ := hW
  have hA : DataW.TrodAll enc Yba.prog W 0 (fun _ => true) true Yba.f3.params.toList args.toList ds p := hA0
  rw [Yba.params3] at hA hval hsz
  obtain ⟨v0, vs0, d0, ds0, p0, q0, hargs, rfl, rfl, h0, r0⟩ := trodAll_cons hA
  obtain ⟨v1, vs1, d1, ds1, p1, q1, rfl, rfl, rfl, h1, r1⟩ := trodAll_cons r0
  obtain ⟨rfl, rfl, rfl⟩ := trodAll_nil r1
  obtain rfl : args = #[v0, v1] := by cases args; simp_all
  obtain ⟨rfl, rfl⟩ := trodVars_none hV
  obtain ⟨a0, len0, cap0, rfl⟩ := okWide_slice Yba.underlying22 (hval 0 22 v0 rfl rfl)
  obtain ⟨a1, len1, cap1, rfl⟩ := okWide_slice Yba.underlying23 (hval 1 23 v1 rfl rfl)
  have k0 := h0
  have k1 := h1
  have lt0 : ∀ x ∈ p0, x.block < W.heap.size := by obtain ⟨m, hm⟩ := k0; exact DataW.trod_lt m _ _ _ hm
  have lt1 : ∀ x ∈ p1, x.block < W.heap.size := by obtain ⟨m, hm⟩ := k1; exact DataW.trod_lt m _ _ _ hm
  obtain ⟨f0, hf0⟩ := h0
  obtain ⟨f1, hf1⟩ := h1
  have hwt : ∀ n ∈ d0.weights Yba.prog 22, n ≤ reachBytes := fun n hn => by
    have := List.all_eq_true.1 hsz n (DataW.weights_mem_each (j := 0) (t := 22) rfl rfl n hn)
    simpa using this
  clear hA0 hval0
  refine (walk a0 a1 len0 cap0 len1 cap1 W (x := (d0, p0)) (y := (d1, p1)) (by simpa [Value.cells] using hf0) hwt (by simpa [Value.cells] using hf1)).mono fun e W' ⟨he, bel⟩ => ?_
  subst he
  exact ⟨_, rfl, _, _, _, [], _, [], hW', trodAll_mk1 (shut_bool Yba.underlying4 _), (trodAll_cons_mk (Below.trod laidOut (by kernel_rfl) (of_decide_eq_true (by kernel_rfl)) k0 bel lt0) (trodAll_cons_mk (Below.trod laidOut (by kernel_rfl) (of_decide_eq_true (by kernel_rfl)) k1 bel lt1) trodAll_mk0)), rfl, bel.frame _, fun h => by cases h⟩

theorem over : Rows.lawS5744AWholeRow.holds Yba.pinned (OpenSpec.ofChange Rows.lawS5744AWholeSpec) :=
  OpenClaim.holds_of_wide 3 Yba.f3 rfl rfl rfl rfl rfl rfl rfl ⟨rfl, rfl, rfl, rfl, rfl⟩ rfl rfl rfl rfl rfl (by kernel_rfl) Yba.func3 (by kernel_rfl)
    (of_decide_eq_true (by kernel_rfl)) (by unfold Func.isWrapper; first | (rw [if_pos (by decide +kernel)]; kernel_rfl) | (rw [if_neg (by decide +kernel)]; exact ⟨rfl, rfl⟩))
    (fun os started H enc _ => lifted os started H enc)

/-- THE STATEMENT -/
theorem proved : Rows.LawS5744AWholeSaid := over
end Go.Proofs.Ybulkdnxy.lawS5744AWhole
