import Derived.Test.YbulkdnueCEdge
import Derived.ProofKit
import Derived.OpenShut
import Derived.ShutString
import Derived.ChangeOld
import Derived.Below
import Derived.Deep.Slices
namespace Go.Proofs.Ybulkdnue.lawS5737CWhole
open Go.ChangeShapes Go.WideShapes Go.ChangeAt Go.RowKit Go.Deep
set_option linter.unusedVariables false

theorem own : ownKnob Yba.prog.godebug = none := by kernel_rfl
theorem laidOut : laidOutB Yba.prog = true := by kernel_rfl
theorem cells40 : Yba.prog.cellsOf 40 = 7 := by kernel_rfl
theorem cells9 : Yba.prog.cellsOf 9 = 1 := by kernel_rfl
theorem cells38 : Yba.prog.cellsOf 38 = 1 := by kernel_rfl
theorem cells4 : Yba.prog.cellsOf 4 = 1 := by kernel_rfl

theorem trod_float {H : Type} {enc : TypeId × Value → H} {P : Program} {w : World} {base : Nat} {spare : Nat → Bool} {held : Bool} {fuel : Nat} {t : TypeId} {cs : List Value} {x : DataW H × List MemPlace} {k : FloatKind}
    (ht : P.underlying t = some (.float k)) (h : DataW.trod enc P w base spare held fuel t cs = some x) : ∃ n, cs = [.float k n] := by
  cases fuel with
  | zero => simp [DataW.trod] at h
  | succ n =>
    unfold DataW.trod at h
    rw [ht] at h
    split at h <;> simp_all

/-- one element: seven cells that spell a source -/
theorem elem {H : Type} {enc : TypeId × Value → H} {w : World} {base : Nat} {spare : Nat → Bool} {held : Bool} {fuel : Nat} {cs : List Value} {x : DataW H × List MemPlace}
    (h : DataW.trod enc Yba.prog w base spare held fuel 40 cs = some x) : ∃ y : Src, cs = y.src.toList := by
  obtain ⟨xs, n, _, rfl, hl, hlen, hf⟩ := DataW.trod_struct Yba.underlying40 h
  rw [cells40] at hl
  match cs, hl with
  | [v0, v1, v2, v3, v4, v5, v6], _ =>
    match xs, hlen with
    | [y0, y1, y2, y3, y4, y5, y6], _ =>
      have f0 := hf 0 _ rfl
      have f1 := hf 1 _ rfl
      have f2 := hf 2 _ rfl
      have f3 := hf 3 _ rfl
      have f4 := hf 4 _ rfl
      have f5 := hf 5 _ rfl
      have f6 := hf 6 _ rfl
      simp [cells9, cells38, cells4] at f0 f1 f2 f3 f4 f5 f6
      obtain ⟨s, e0, _, _⟩ := DataW.trod_string Yba.underlying9 f0
      obtain ⟨wt, e1⟩ := trod_float Yba.underlying38 f1
      obtain ⟨l, e2⟩ := trod_float Yba.underlying38 f2
      obtain ⟨d, e3, _⟩ := DataW.trod_bool Yba.underlying4 f3
      obtain ⟨c, e4, _⟩ := DataW.trod_bool Yba.underlying4 f4
      obtain ⟨st, e5, _⟩ := DataW.trod_bool Yba.underlying4 f5
      obtain ⟨q, e6, _⟩ := DataW.trod_bool Yba.underlying4 f6
      simp at e0 e1 e2 e3 e4 e5 e6
      subst e0 e1 e2 e3 e4 e5 e6
      exact ⟨⟨s, wt, l, d, c, st, q⟩, rfl⟩

theorem walk {H : Type} {enc : TypeId × Value → H} (a0 : Option Addr) (len0 cap0 : Nat) (w : World) {spare : Nat → Bool} {held : Bool} {fuel : Nat} {x : DataW H × List MemPlace}
    (h : DataW.trod enc Yba.prog w 0 spare held fuel 36 [.slice a0 len0 cap0] = some x) :
    Calls Yba.prog 4 #[.slice a0 len0 cap0] w fun e w' => e = .returned (.bool true) ∧ Below w.heap.size w w' := by
  rcases open_slice Yba.underlying36 h with ⟨hcs, _⟩ | ⟨a, len, cap, m, n, D, Pl, hcs, _, hl, hm, hmm, _, hel⟩
  · simp at hcs
    obtain ⟨rfl, rfl, rfl⟩ := hcs
    exact walk_nil w
  · simp at hcs
    obtain ⟨rfl, rfl, rfl⟩ := hcs
    unfold maxLen at hm
    by_cases hbig : 1048576 < len0
    · exact walk_big _ len0 cap0 w hbig (by omega)
    by_cases hz : len0 = 0
    · subst hz; exact walk_empty a cap0 w
    rw [cells40] at hel
    have hle : len0 ≤ m := by rw [hmm]; split <;> omega
    have inh : Inhabited Src := ⟨⟨ByteArray.empty, 0, 0, false, false, false, false⟩⟩
    obtain ⟨X, hX⟩ := choose_lt (α := Src) (n := len0) (p := fun i y => ∀ j, j < 7 → w.cell? ((a.add (i * 7)).add j) = y.src.toList[j]?) (fun i hi => by
      obtain ⟨cs', h1, h2⟩ := hel i (by omega)
      obtain ⟨y, rfl⟩ := elem h2
      exact ⟨y, (World.cells?_some h1).2.2⟩)
    have hc0 := hX 0 (by omega) 0 (by omega)
    obtain ⟨b, off, spot⟩ := a
    have hspot : spot = none := by
      have h1 : w.cell? ⟨b, off, spot⟩ = some (.string (X 0).s) := by simpa [Addr.add, Src.src] using hc0
      simpa using World.cell?_spot h1
    subst hspot
    have hrow : XRow w b off len0 X := fun i hi j u hu => by
      have hj : j < 7 := by
        have := (Array.getElem?_eq_some_iff.1 hu).1
        simpa [Src.src] using this
      have := hX i hi j hj
      rw [add_plain, add_plain] at this
      rw [this]; simpa using hu
    have hb : b < w.heap.size := by
      have := hrow 0 (by omega) 0 _ rfl
      exact World.block_lt_of_cell? w _ this
    exact walk_full b off len0 cap0 X w hrow hb (by omega) (by omega)

set_option maxRecDepth 100000 in
theorem lifted (os : Os) (started : os.Started) (H : Type) (enc : TypeId × Value → H) :
    ReturnsInHanded {} Yba.checked os 4 .any (Rows.lawS5737CWholeSpec.pre6 enc Yba.prog Yba.f4 Rows.lawS5737CWholeRow.domain false) (Rows.lawS5737CWholeSpec.post enc Yba.prog Yba.f4 false true false false) := by
  refine returnsInHanded_of_change (C := Yba.checked) own started (by kernel_rfl) Yba.func4
    (ChangeSpec.witness6 (enc := enc) (C := Yba.checked) false ⟨#[], #[.slice none 0 0], []⟩ 8 (by kernel_rfl) (by kernel_rfl) (by kernel_rfl) (by kernel_rfl)) ?_
  intro W base args ds gs before hval0 hW hcnd _
  have hval : ∀ (j : Nat) t v, Yba.f4.params[j]? = some t → args[j]? = some v → Value.okWide Yba.prog W .any base t v := hval0
  have hW' := hW
  obtain ⟨p, q, hA0, hV, rfl, hfz, hnd⟩ := hW
  have hA : DataW.TrodAll enc Yba.prog W 0 (fun _ => true) true Yba.f4.params.toList args.toList ds p := hA0
  rw [Yba.params4] at hA hval
  obtain ⟨v0, vs0, d0, ds0, p0, q0, hargs, rfl, rfl, h0, r0⟩ := trodAll_cons hA
  obtain ⟨rfl, rfl, rfl⟩ := trodAll_nil r0
  obtain rfl : args = #[v0] := by cases args; simp_all
  obtain ⟨rfl, rfl⟩ := trodVars_none hV
  obtain ⟨a0, len0, cap0, rfl⟩ := okWide_slice Yba.underlying36 (hval 0 36 v0 rfl rfl)
  have k0 := h0
  have lt0 : ∀ x ∈ p0, x.block < W.heap.size := by obtain ⟨m, hm⟩ := k0; exact DataW.trod_lt m _ _ _ hm
  obtain ⟨fuel, hf⟩ := h0
  clear hA0 hval0
  refine (walk a0 len0 cap0 W (by simpa [Value.cells] using hf)).mono fun e W' ⟨he, bel⟩ => ?_
  subst he
  exact ⟨_, rfl, _, _, _, [], _, [], hW', trodAll_mk1 (shut_bool Yba.underlying4 _), (trodAll_cons_mk (Below.trod laidOut (by kernel_rfl) (of_decide_eq_true (by kernel_rfl)) k0 bel lt0) trodAll_mk0), rfl, bel.frame _, fun h => by cases h⟩

theorem over : Rows.lawS5737CWholeRow.holds Yba.pinned (OpenSpec.ofChange Rows.lawS5737CWholeSpec) :=
  OpenClaim.holds_of_wide 4 Yba.f4 rfl rfl rfl rfl rfl rfl rfl ⟨rfl, rfl, rfl, rfl, rfl⟩ rfl rfl rfl rfl rfl (by kernel_rfl) Yba.func4 (by kernel_rfl)
    (of_decide_eq_true (by kernel_rfl)) (by unfold Func.isWrapper; first | (rw [if_pos (by decide +kernel)]; kernel_rfl) | (rw [if_neg (by decide +kernel)]; exact ⟨rfl, rfl⟩))
    (fun os started H enc _ => lifted os started H enc)

/-- THE STATEMENT -/
theorem proved : Rows.LawS5737CWholeSaid := over
end Go.Proofs.Ybulkdnue.lawS5737CWhole
