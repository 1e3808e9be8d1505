import Derived.Test.YbulkdnxySix
import Derived.StillTailTactics
import Derived.Deep.QuietTactic
import Derived.BigQuiet
import Derived.Deep.LoopGhost
import Derived.Deep.DeepCutAuto
namespace Go.Proofs.Ybulkdnxy
open Go.RowKit
set_option linter.unusedVariables false

set_option maxRecDepth 100000 in
set_option maxHeartbeats 8000000 in
theorem walk_tail (na sa : Option Addr) (m nc pl pc : Nat) (X : Nat → Src) (S : Nat → Sg) (w W : World) (hN : NRow w na m X) (hS : SRow w sa pl S) (hnn : m ≤ 4096) (hpl : pl ≤ 4096) (hB : B2 w W m m (fun i => (X i).d))
    (c2 c3 c4 c7 c8 c9 c10 c11 c12 c13 c14 c15 c16 c17 c18 c19 c20 c21 c22 c23 c24 c25 c26 c27 c28 c29 c30 c31 c32 c33 c34 c35 c36 c37 c38 c39 c40 c41 c42 c43 c44 c45 c46 c47 c48 c49 c50 c51 c52 c53 c54 c55 c56 c57 c58 c59 c60 c61 c62 c63 c64 c65 c66 c67 c68 c69 c70 c71 c72 c73 c74 c75 c76 c77 c78 c79 c80 c81 c82 c83 c84 c85 c86 c87 c88 c89 c90 c91 c92 c93 c94 c95 c96 c97 c98 c99 c100 c101 c102 c103 c104 c105 c106 c107 c108 c109 c110 c111 c112 c113 c114 c115 c116 c117 c118 c119 c120 c121 c122 c123 c124 c125 c126 c127 c128 c129 c130 c131 c132 c133 c134 c135 c136 c137 c138 c139 c140 c141 c142 c143 c144 c145 c146 c147 c148 c149 c150 c151 c152 c153 c154 c155 c156 c157 c158 c159 c160 c161 c162 c163 c164 c165 c166 c167 c168 c169 c170 c171 c172 c173 c174 c175 c176 c177 c178 c179 c180 c181 c182 c183 c184 c185 c186 c187 c188 c189 c190 c191 c192 c193 c194 c195 c196 c197 c198 c199 c200 c201 c202 c203 c204 c205 c206 c207 c208 c209 c210 c211 c212 c213 c214 c215 c216 c217 c218 c219 c220 c221 c222 c223 c224 c225 c226 c227 c228 c229 c230 c231 c232 c233 c234 c235 c236 c237 c238 c239 c240 c241 c242 c243 c244 c245 c246 c247 c248 c249 c250 c251 c252 c253 c254 c255 c256 c257 c258 c259 c260 c261 c262 c263 c264 c265 c266 c267 c268 c269 c270 c271 c272 c273 c274 c275 c276 c277 c278 c279 c280 c281 : Value) :
    Code.wp Yba.prog (tl (tl (tl (tl (tl (tl (Yba.f3.body.getD .skip))))))) (bodyPost Yba.prog Yba.f3 fun e w' => e = .returned (.bool true) ∧ Below w.heap.size w w')
      ⟨#[.slice na m nc, .slice sa pl pc, c2, c3, c4, .int .i64 (m : Int), .slice (some ⟨w.heap.size, 0, none⟩) m m, c7, c8, c9, c10, c11, c12, c13, c14, c15, c16, c17, c18, c19, c20, c21, c22, c23, c24, c25, c26, c27, c28, c29, c30, c31, c32, c33, c34, c35, c36, c37, c38, c39, c40, c41, c42, c43, c44, c45, c46, c47, c48, c49, c50, c51, c52, c53, c54, c55, c56, c57, c58, c59, c60, c61, c62, c63, c64, c65, c66, c67, c68, c69, c70, c71, c72, c73, c74, c75, c76, c77, c78, c79, c80, c81, c82, c83, c84, c85, c86, c87, c88, c89, c90, c91, c92, c93, c94, c95, c96, c97, c98, c99, c100, c101, c102, c103, c104, c105, c106, c107, c108, c109, c110, c111, c112, c113, c114, c115, c116, c117, c118, c119, c120, c121, c122, c123, c124, c125, c126, c127, c128, c129, c130, c131, c132, c133, c134, c135, c136, c137, c138, c139, c140, c141, c142, c143, c144, c145, c146, c147, c148, c149, c150, c151, c152, c153, c154, c155, c156, c157, c158, c159, c160, c161, c162, c163, c164, c165, c166, c167, c168, c169, c170, c171, c172, c173, c174, c175, c176, c177, c178, c179, c180, c181, c182, c183, c184, c185, c186, c187, c188, c189, c190, c191, c192, c193, c194, c195, c196, c197, c198, c199, c200, c201, c202, c203, c204, c205, c206, c207, c208, c209, c210, c211, c212, c213, c214, c215, c216, c217, c218, c219, c220, c221, c222, c223, c224, c225, c226, c227, c228, c229, c230, c231, c232, c233, c234, c235, c236, c237, c238, c239, c240, c241, c242, c243, c244, c245, c246, c247, c248, c249, c250, c251, c252, c253, c254, c255, c256, c257, c258, c259, c260, c261, c262, c263, c264, c265, c266, c267, c268, c269, c270, c271, c272, c273, c274, c275, c276, c277, c278, c279, c280, c281], []⟩ W := by
  conv => arg 2; whnf
  have HN : Hid (NRow w na m X) := hN
  have HS : Hid (SRow w sa pl S) := hS
  have HBB : Hid (B2 w W m m (fun i => (X i).d)) := hB
  clear hN hS hB
  have hsz : w.heap.size + 1 + m ≤ W.heap.size := HBB.out.size
  obtain ⟨start, hst⟩ : ∃ start : Option Nat, start = if 0 < m then some 0 else none := ⟨_, rfl⟩
  have HST : Hid (start = if 0 < m then some 0 else none) := hst
  clear hst
  go_upto_if 156 with fail
  go_cut [19] (fun r wc => r = .pointer (ptrA (w.heap.size + 1) start) ∧ wc = W)
  case first =>
    by_cases hm0 : 0 < m
    · have c0 := HBB.out.row 0 hm0
      have hs0 : start = some 0 := by rw [HST.out, if_pos hm0]
      subst hs0
      go_wp2
      go_meet
      case rel => exact ⟨rfl, rfl⟩
    · have hs0 : start = none := by rw [HST.out, if_neg hm0]
      subst hs0
      go_wp2
      go_meet
      case rel => exact ⟨rfl, rfl⟩
  case rest =>
    obtain ⟨rfl, rfl⟩ := hcut
    have hmk := run_mkI pl hpl
    go_wp2
    clear hmk
    go_loopg [165] pl (fun q i wq => ∃ j : Nat, j ≤ pl ∧ q = pl - j ∧ i = .int .i64 j ∧ C5 wc wq pl j S)
    case atStart => exact ⟨0, Nat.zero_le _, rfl, rfl, C5.start wc pl S⟩
    case round =>
      obtain ⟨j, hj, rfl, rfl, hC⟩ := hrel
      have HC5 : Hid (C5 wc wr pl j S) := hC
      by_cases hjp : j < pl
      · obtain ⟨sb, so, rfl, hsl, hsc⟩ := HS.out (by omega)
        obtain ⟨c0, c1, c2, hk0, hk1, hi0, hi1⟩ := hsc j hjp
        clear hsc
        have hbel : Below w.heap.size w wr := HBB.out.bel.trans (hC.bel.mono (by omega))
        have e0 := (hbel.cell (p := ⟨sb, so + j * 3, none⟩) hsl).trans c0
        have e1 := (hbel.cell (p := ⟨sb, so + j * 3 + 1, none⟩) hsl).trans c1
        have e2 := (hbel.cell (p := ⟨sb, so + j * 3 + 2, none⟩) hsl).trans c2
        clear c0 c1 c2 hbel
        obtain ⟨u, hu⟩ := hC.cell hjp
        have hfr := hC.free hjp
        have hlt := hC.lt
        clear hC
        generalize hsg : S j = sg at e0 e1 e2 hk0 hk1 hi0 hi1
        have HSG : Hid (S j = sg) := hsg
        clear hsg
        rcases kind3 sg.kind hk0 with h3 | h3 | h3
        · have HV : Hid (Value.iface 41 (.string sg.K) = segV (S j)) := by show _ = _; rw [HSG.out]; unfold segV; rw [if_pos h3]
          go_wp2
          go_roundg (pl - (j + 1))
          case measure => omega
          case rel => exact ⟨j + 1, by omega, rfl, by go_num, HC5.out.step hjp _ HV.out _⟩
        · have HV : Hid (Value.iface 44 (.int .i64 sg.I) = segV (S j)) := by show _ = _; rw [HSG.out]; unfold segV; rw [if_neg (by omega), if_pos h3]
          go_wp2
          go_roundg (pl - (j + 1))
          case measure => omega
          case rel => exact ⟨j + 1, by omega, rfl, by go_num, HC5.out.step hjp _ HV.out _⟩
        · have HV : Hid (Value.iface 46 (.agg #[]) = segV (S j)) := by show _ = _; rw [HSG.out]; unfold segV; rw [if_neg (by omega), if_neg (by omega)]
          go_wp2
          go_roundg (pl - (j + 1))
          case measure => omega
          case rel => exact ⟨j + 1, by omega, rfl, by go_num, HC5.out.step hjp _ HV.out _⟩
      · have hjp' : j = pl := by omega
        subst hjp'
        clear hC
        have hni : ∀ r, r < m → (X r).d.ni ≤ 9223372036854775807 := fun r hr => by
          obtain ⟨nb, no, _, _, hcn⟩ := HN.out (by omega)
          have := (hcn r hr).2.2.2.2.bi
          omega
        have hstl : ∀ r, start = some r → r < m := fun r hr => by
          rw [HST.out] at hr
          split at hr
          · cases hr; assumption
          · cases hr
        have hat : Calls Yba.prog 5 #[.pointer (ptrA (w.heap.size + 1) start), .slice (some ⟨wc.heap.size, 0, none⟩) j j] wr fun e w' => e = .returned (.pointer (ptrA (w.heap.size + 1) (walkTo (fun i => (X i).d) m S start j))) ∧ Below wr.heap.size wr w' := by
          by_cases hm0 : 0 < m
          · have hs0 : start = some 0 := by rw [HST.out, if_pos hm0]
            rw [hs0]
            exact at_any (w.heap.size + 1) (w.heap.size + 1 + m) m wc.heap.size j (fun i => (X i).d) S wr (ready_of HBB.out HC5.out) hm0 hpl hni
          · have hs0 : start = none := by rw [HST.out, if_neg hm0]
            rw [hs0, walkTo_none (N := fun i => (X i).d) (nn := m) (S := S) (start := none) (k := 0) rfl j (Nat.zero_le _)]
            exact (at_nil wc.heap.size j (fun i => segV (S i)) wr HC5.out.done hpl).mono fun e w' h => ⟨h.1, by rw [h.2]; exact Below.refl _ _⟩
        clear hni
        go_wp2_with fail
        refine hat.mono ?_
        clear hat
        rintro e W6 ⟨rfl, hb6⟩
        have HB6 : Hid (Below w.heap.size w W6 ∧ (∀ q, q < m → W6.cell? ⟨w.heap.size, q, none⟩ = some (.pointer (some ⟨w.heap.size + 1 + q, 0, none⟩))) ∧ w.heap.size < W6.heap.size) := by
          have h5 := HC5.out.bel.trans (hb6.mono HC5.out.bel.size)
          have h6 := HBB.out.bel.trans (h5.mono (by omega))
          exact ⟨h6, fun q hq => (h5.cell (p := ⟨w.heap.size, q, none⟩) (by show w.heap.size < _; omega)).trans (HBB.out.row q hq), by have := h5.size; omega⟩
        clear hb6 HC5 HBB
        go_upto_if 199 with fail
        go_cut [24] (fun c wd => c = .int .i64 (curI start) ∧ wd = W6)
        case first =>
          by_cases hm0 : 0 < m
          · have hs0 : start = some 0 := by rw [HST.out, if_pos hm0]
            subst hs0
            go_wp2
            go_meet
            case rel => exact ⟨rfl, rfl⟩
          · have hs0 : start = none := by rw [HST.out, if_neg hm0]
            subst hs0
            go_wp2
            go_meet
            case rel => exact ⟨rfl, rfl⟩
        case rest =>
          obtain ⟨rfl, hwd⟩ := hcut
          subst hwd
          rename_i KT hT
          exact hT _ _ (walk_six na sa m nc j pc X S w _ start HN.out HS.out hnn hpl hstl HB6.out _ _ _ _ _ _ _ _ _ _ _ _ _ _ _ _ _ _ _ _ _ _ _ _ _ _ _ _ _ _ _ _ _ _ _ _ _ _ _ _ _ _ _ _ _ _ _ _ _ _ _ _ _ _ _ _ _ _ _ _ _ _ _ _ _ _ _ _ _ _ _ _ _ _ _ _ _ _ _ _ _ _ _ _ _ _ _ _ _ _ _ _ _ _ _ _ _ _ _ _ _ _ _ _ _ _ _ _ _ _ _ _ _ _ _ _ _ _ _ _ _ _ _ _ _ _ _ _ _ _ _ _ _ _ _ _ _ _ _ _ _ _ _ _ _ _ _ _ _ _ _ _ _ _ _ _ _ _ _ _ _ _ _ _ _ _ _ _ _ _ _ _ _ _ _ _ _ _ _ _ _ _ _ _ _ _ _ _ _ _ _ _ _ _ _ _ _ _ _ _ _ _ _ _ _ _ _ _ _ _ _ _ _ _ _ _ _ _ _ _ _ _ _ _ _ _ _ _ _ _ _ _ _ _ _ _ _ _ _ _ _ _ _ _ _ _ _ _ _ _ _ _ _ _ _ _ _ _ _ _ _ _ _ _ _ _ _ _ _ _ _ _ _ _ _ _)
end Go.Proofs.Ybulkdnxy
