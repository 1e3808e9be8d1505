import Derived.Test.YbulkdnxyModel
import Derived.ProofKit
import Derived.OpenShut
import Derived.ShutString
import Derived.ChangeOld
import Derived.Below
import Derived.SizedLaws
import Derived.Deep.Slices
import Derived.Deep.Strs
namespace Go.Proofs.Ybulkdnxy.lawS5744AWhole
open Go.ChangeShapes Go.WideShapes Go.ChangeAt Go.RowKit Go.Deep
set_option linter.unusedVariables false

theorem own : ownKnob Yba.prog.godebug = none := by kernel_rfl
theorem laidOut : laidOutB Yba.prog = true := by kernel_rfl
theorem cells35 : Yba.prog.cellsOf 35 = 4 := by kernel_rfl
theorem cells40 : Yba.prog.cellsOf 40 = 3 := by kernel_rfl
theorem cells32 : Yba.prog.cellsOf 32 = 1 := by kernel_rfl
theorem cells33 : Yba.prog.cellsOf 33 = 1 := by kernel_rfl
theorem cells3 : Yba.prog.cellsOf 3 = 1 := by kernel_rfl
theorem cells9 : Yba.prog.cellsOf 9 = 1 := by kernel_rfl
theorem cells5 : Yba.prog.cellsOf 5 = 1 := by kernel_rfl
theorem bytes3 : Yba.prog.bytesOf 3 = 8 := by kernel_rfl
theorem bytes9 : Yba.prog.bytesOf 9 = 16 := by kernel_rfl

theorem mem_weightsAll {H : Type} {P : Program} {e : TypeId} {d : DataW H} {n : Nat} : ∀ {ds : List (DataW H)}, d ∈ ds → n ∈ d.weights P e → n ∈ DataW.weightsAll P e ds
  | [], h, _ => by cases h
  | x :: r, h, hn => by
    simp only [DataW.weightsAll, List.mem_append]
    rcases List.mem_cons.1 h with rfl | h
    · exact .inl hn
    · exact .inr (mem_weightsAll h hn)

/-- a []int that came in -/
theorem ints {H : Type} {enc : TypeId × Value → H} {w : World} {spare : Nat → Bool} {held : Bool} {fuel : Nat} {v : Value} {x : DataW H × List MemPlace}
    (h : DataW.trod enc Yba.prog w 0 spare held fuel 33 [v] = some x) (hw : ∀ n ∈ x.1.weights Yba.prog 33, n ≤ reachBytes) :
    ∃ (A : Option Addr) (L C : Nat) (Z : Nat → Int), v = .slice A L C ∧ IntRow w A L Z ∧ L * 8 ≤ 140737488351232 ∧ ∀ j, -9223372036854775808 ≤ Z j ∧ Z j ≤ 9223372036854775807 := by
  rcases open_ints Yba.underlying33 Yba.underlying3 cells3 h with ⟨hcs, _⟩ | ⟨a, len, cap, zs, hcs, _, hl, hm, hz, hx, hcell, hwf⟩
  · simp at hcs
    exact ⟨none, 0, 0, fun _ => 0, hcs, fun h => absurd h (Nat.not_lt_zero _), by omega, fun _ => by dsimp only; omega⟩
  · simp at hcs
    have hlz : len ≤ zs.length := by rw [hz]; split <;> omega
    refine ⟨some a, len, cap, fun j => zs.getD j 0, hcs, ?_, ?_, ?_⟩
    · intro h0
      obtain ⟨b, off, rfl, hc⟩ := ints_at hcell (by omega)
      exact ⟨b, off, rfl, World.block_lt_of_cell? w _ (hc 0 (by omega)), fun j hj => hc j (by omega)⟩
    · have hb := hw (((lits (H := H) IntKind.i64 (zs.take len)).length + (lits (H := H) IntKind.i64 (zs.drop len)).length) * Yba.prog.bytesOf 3) (by
        rw [hx]; simp [DataW.weights, Yba.underlying33])
      rw [bytes3] at hb
      simp only [lits, List.length_map, List.length_take, List.length_drop, reachBytes] at hb
      omega
    · intro j
      by_cases hj : j < zs.length
      · have hmem : zs.getD j 0 ∈ zs := by simp [List.getD, hj]
        exact bounds_i64 (hwf _ hmem)
      · simp [List.getD, hj]

/-- a []string that came in -/
theorem strs {H : Type} {enc : TypeId × Value → H} {w : World} {spare : Nat → Bool} {held : Bool} {fuel : Nat} {v : Value} {x : DataW H × List MemPlace}
    (h : DataW.trod enc Yba.prog w 0 spare held fuel 32 [v] = some x) (hw : ∀ n ∈ x.1.weights Yba.prog 32, n ≤ reachBytes) :
    ∃ (A : Option Addr) (L C : Nat) (K : Nat → ByteArray), v = .slice A L C ∧ StrRow w A L K ∧ L ≤ 140737488351232 := by
  rcases open_slice1 Yba.underlying32 cells9 h with ⟨hcs, _⟩ | ⟨a, len, cap, m, n, V, D, Pl, hcs, _, hl, hm, hmm, hx, hel⟩
  · simp at hcs
    exact ⟨none, 0, 0, fun _ => ByteArray.empty, hcs, fun h => absurd h (Nat.not_lt_zero _), by omega⟩
  · simp at hcs
    have hle : len ≤ m := by rw [hmm]; split <;> omega
    have hp : ∀ i, i < len → ∃ s : ByteArray, V i = .string s := fun i hi => by
      obtain ⟨_, h2⟩ := hel i (by omega)
      obtain ⟨s, hs, _⟩ := DataW.trod_string Yba.underlying9 h2
      exact ⟨s, by simpa using hs⟩
    have inh : Inhabited ByteArray := ⟨ByteArray.empty⟩
    obtain ⟨K, hK⟩ := choose_lt hp
    refine ⟨some a, len, cap, K, hcs, ?_, ?_⟩
    · intro h0
      have hcv := fun i (hi : i < len) => (hel i (by omega)).1
      obtain ⟨b, off, spot⟩ := a
      have hspot : spot = none := by
        have h1 : w.cell? ⟨b, off, spot⟩ = some (V 0) := by simpa [Addr.add] using hcv 0 h0
        simpa using World.cell?_spot h1
      subst hspot
      have hc : ∀ j, j < len → w.cell? ⟨b, off + j, none⟩ = some (.string (K j)) := fun j hj => by
        have := hcv j hj
        rw [add_plain] at this
        rw [this, hK j hj]
      exact ⟨b, off, rfl, World.block_lt_of_cell? w _ (hc 0 h0), hc⟩
    · have hb := hw (((((List.range len).map D).length) + (((List.range (m - len)).map fun j => D (len + j)).length)) * Yba.prog.bytesOf 9) (by
        rw [hx]; simp [DataW.weights, Yba.underlying32])
      rw [bytes9] at hb
      simp only [List.length_map, List.length_range, reachBytes] at hb
      omega

/-- one node -/
theorem node {H : Type} {enc : TypeId × Value → H} {w : World} {spare : Nat → Bool} {held : Bool} {fuel : Nat} {cs : List Value} {x : DataW H × List MemPlace}
    (h : DataW.trod enc Yba.prog w 0 spare held fuel 35 cs = some x) (hw : ∀ n ∈ x.1.weights Yba.prog 35, n ≤ reachBytes) :
    ∃ y : Src, cs = [.slice y.ka y.d.nk y.kc, .slice y.da y.d.nd y.dc, .slice y.ia y.d.ni y.ic, .int .i64 y.d.fm] ∧ Good w y := by
  obtain ⟨xs, n, _, rfl, hl, hlen, hf⟩ := DataW.trod_struct Yba.underlying35 h
  rw [cells35] at hl
  match cs, hl with
  | [v0, v1, v2, v3], _ =>
    match xs, hlen with
    | [y0, y1, y2, y3], _ =>
      have f0 := hf 0 _ rfl
      have f1 := hf 1 _ rfl
      have f2 := hf 2 _ rfl
      have f3 := hf 3 _ rfl
      simp [cells32, cells33, cells3] at f0 f1 f2 f3
      have hwe : ∀ k, k ∈ DataW.weightsEach Yba.prog [32, 33, 33, 3] [y0.1, y1.1, y2.1, y3.1] → k ≤ reachBytes := fun k hk => hw k (by
        simp only [DataW.weights, Yba.underlying35, List.map_cons, List.map_nil]
        exact hk)
      obtain ⟨ka, nk, kc, K, e0, r0, b0⟩ := strs f0 (fun k hk => hwe k (by simp only [DataW.weightsEach, List.mem_append]; exact .inl hk))
      obtain ⟨da, nd, dc, D, e1, r1, b1, g1⟩ := ints f1 (fun k hk => hwe k (by simp only [DataW.weightsEach, List.mem_append]; exact .inr (.inl hk)))
      obtain ⟨ia, ni, ic, I, e2, r2, b2, g2⟩ := ints f2 (fun k hk => hwe k (by simp only [DataW.weightsEach, List.mem_append]; exact .inr (.inr (.inl hk))))
      obtain ⟨fm, e3, _, wf⟩ := DataW.trod_int Yba.underlying3 f3
      simp at e3
      subst e0 e1 e2 e3
      exact ⟨⟨ka, kc, da, dc, ia, ic, ⟨nk, K, nd, D, ni, I, fm⟩⟩, rfl, ⟨r0, r1, r2, b0, by dsimp only; omega, b2, g1, g2, bounds_i64 wf⟩⟩

/-- one segment -/
theorem seg {H : Type} {enc : TypeId × Value → H} {w : World} {spare : Nat → Bool} {held : Bool} {fuel : Nat} {cs : List Value} {x : DataW H × List MemPlace}
    (h : DataW.trod enc Yba.prog w 0 spare held fuel 40 cs = some x) :
    ∃ s : Sg, cs = [.int .u8 s.kind, .string s.K, .int .i64 s.I] ∧ 0 ≤ s.kind ∧ s.kind ≤ 255 ∧ -9223372036854775808 ≤ s.I ∧ s.I ≤ 9223372036854775807 := by
  obtain ⟨xs, n, _, rfl, hl, hlen, hf⟩ := DataW.trod_struct Yba.underlying40 h
  rw [cells40] at hl
  match cs, hl with
  | [v0, v1, v2], _ =>
    match xs, hlen with
    | [y0, y1, y2], _ =>
      have f0 := hf 0 _ rfl
      have f1 := hf 1 _ rfl
      have f2 := hf 2 _ rfl
      simp [cells5, cells9, cells3] at f0 f1 f2
      obtain ⟨kd, e0, _, w0⟩ := DataW.trod_int Yba.underlying5 f0
      obtain ⟨K, e1, _, _⟩ := DataW.trod_string Yba.underlying9 f1
      obtain ⟨I, e2, _, w2⟩ := DataW.trod_int Yba.underlying3 f2
      simp at e0 e1 e2
      subst e0 e1 e2
      have b0 := bounds_u8 w0
      have b2 := bounds_i64 w2
      exact ⟨⟨kd, K, I⟩, rfl, b0.1, b0.2, b2.1, b2.2⟩

/-- the nodes that came in -/
theorem nodes {H : Type} {enc : TypeId × Value → H} {w : World} {spare : Nat → Bool} {held : Bool} {fuel : Nat} {a0 : Option Addr} {len0 cap0 : Nat} {x : DataW H × List MemPlace}
    (h : DataW.trod enc Yba.prog w 0 spare held fuel 22 [.slice a0 len0 cap0] = some x) (hw : ∀ n ∈ x.1.weights Yba.prog 22, n ≤ reachBytes) :
    len0 ≤ 9223372036854775807 ∧ ∃ X : Nat → Src, NRow w a0 len0 X := by
  have inh : Inhabited Src := ⟨⟨none, 0, none, 0, none, 0, ⟨0, fun _ => ByteArray.empty, 0, fun _ => 0, 0, fun _ => 0, 0⟩⟩⟩
  rcases open_slice Yba.underlying22 h with ⟨hcs, _⟩ | ⟨a, len, cap, m, n, D, Pl, hcs, _, hl, hm, hmm, hx, hel⟩
  · simp at hcs
    obtain ⟨rfl, rfl, rfl⟩ := hcs
    exact ⟨by omega, fun _ => default, fun h => absurd h (Nat.not_lt_zero _)⟩
  · simp at hcs
    obtain ⟨rfl, rfl, rfl⟩ := hcs
    unfold maxLen at hm
    refine ⟨by omega, ?_⟩
    rw [cells35] at hel
    have hle : len0 ≤ m := by rw [hmm]; split <;> omega
    obtain ⟨X, hX⟩ := choose_lt (α := Src) (n := len0) (p := fun i y => Good w y ∧ ∀ j, j < 4 → w.cell? ((a.add (i * 4)).add j) = [Value.slice y.ka y.d.nk y.kc, .slice y.da y.d.nd y.dc, .slice y.ia y.d.ni y.ic, .int .i64 y.d.fm][j]?) (fun i hi => by
      obtain ⟨cs', h1, h2⟩ := hel i (by omega)
      obtain ⟨y, rfl, hg⟩ := node h2 (fun k hk => hw k (by
        rw [hx]
        simp only [DataW.weights, Yba.underlying22, List.mem_cons, List.mem_append]
        exact .inr (.inl (mem_weightsAll (d := D i) (List.mem_map.2 ⟨i, List.mem_range.2 hi, rfl⟩) hk))))
      exact ⟨y, hg, (World.cells?_some h1).2.2⟩)
    refine ⟨X, fun h0 => ?_⟩
    have hc0 := (hX 0 h0).2 0 (by omega)
    obtain ⟨b, off, spot⟩ := a
    have hspot : spot = none := by
      have h1 : w.cell? ⟨b, off, spot⟩ = some (.slice (X 0).ka (X 0).d.nk (X 0).kc) := by simpa [Addr.add] using hc0
      simpa using World.cell?_spot h1
    subst hspot
    have hc : ∀ i, i < len0 → ∀ j, j < 4 → w.cell? ⟨b, off + i * 4 + j, none⟩ = [Value.slice (X i).ka (X i).d.nk (X i).kc, .slice (X i).da (X i).d.nd (X i).dc, .slice (X i).ia (X i).d.ni (X i).ic, .int .i64 (X i).d.fm][j]? := fun i hi j hj => by
      have := (hX i hi).2 j hj
      rw [add_plain, add_plain] at this
      exact this
    have hb : b < w.heap.size := by
      have := hc 0 h0 0 (by omega)
      exact World.block_lt_of_cell? w _ this
    exact ⟨b, off, rfl, hb, fun i hi => ⟨hc i hi 0 (by omega), hc i hi 1 (by omega), hc i hi 2 (by omega), hc i hi 3 (by omega), (hX i hi).1⟩⟩

/-- the path that came in -/
theorem path {H : Type} {enc : TypeId × Value → H} {w : World} {spare : Nat → Bool} {held : Bool} {fuel : Nat} {a0 : Option Addr} {len0 cap0 : Nat} {x : DataW H × List MemPlace}
    (h : DataW.trod enc Yba.prog w 0 spare held fuel 23 [.slice a0 len0 cap0] = some x) :
    len0 ≤ 9223372036854775807 ∧ ∃ S : Nat → Sg, SRow w a0 len0 S := by
  have inh : Inhabited Sg := ⟨⟨0, ByteArray.empty, 0⟩⟩
  rcases open_slice Yba.underlying23 h with ⟨hcs, _⟩ | ⟨a, len, cap, m, n, D, Pl, hcs, _, hl, hm, hmm, hx, hel⟩
  · simp at hcs
    obtain ⟨rfl, rfl, rfl⟩ := hcs
    exact ⟨by omega, fun _ => default, fun h => absurd h (Nat.not_lt_zero _)⟩
  · simp at hcs
    obtain ⟨rfl, rfl, rfl⟩ := hcs
    unfold maxLen at hm
    refine ⟨by omega, ?_⟩
    rw [cells40] at hel
    have hle : len0 ≤ m := by rw [hmm]; split <;> omega
    obtain ⟨S, hS⟩ := choose_lt (α := Sg) (n := len0) (p := fun i y => (0 ≤ y.kind ∧ y.kind ≤ 255 ∧ -9223372036854775808 ≤ y.I ∧ y.I ≤ 9223372036854775807) ∧ ∀ j, j < 3 → w.cell? ((a.add (i * 3)).add j) = [Value.int .u8 y.kind, .string y.K, .int .i64 y.I][j]?) (fun i hi => by
      obtain ⟨cs', h1, h2⟩ := hel i (by omega)
      obtain ⟨y, rfl, hg⟩ := seg h2
      exact ⟨y, hg, (World.cells?_some h1).2.2⟩)
    refine ⟨S, fun h0 => ?_⟩
    have hc0 := (hS 0 h0).2 0 (by omega)
    obtain ⟨b, off, spot⟩ := a
    have hspot : spot = none := by
      have h1 : w.cell? ⟨b, off, spot⟩ = some (.int .u8 (S 0).kind) := by simpa [Addr.add] using hc0
      simpa using World.cell?_spot h1
    subst hspot
    have hc : ∀ i, i < len0 → ∀ j, j < 3 → w.cell? ⟨b, off + i * 3 + j, none⟩ = [Value.int .u8 (S i).kind, .string (S i).K, .int .i64 (S i).I][j]? := fun i hi j hj => by
      have := (hS i hi).2 j hj
      rw [add_plain, add_plain] at this
      exact this
    have hb : b < w.heap.size := by
      have := hc 0 h0 0 (by omega)
      exact World.block_lt_of_cell? w _ this
    exact ⟨b, off, rfl, hb, fun i hi => ⟨hc i hi 0 (by omega), hc i hi 1 (by omega), hc i hi 2 (by omega), (hS i hi).1⟩⟩

end Go.Proofs.Ybulkdnxy.lawS5744AWhole
