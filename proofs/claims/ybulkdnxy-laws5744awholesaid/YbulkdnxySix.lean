import Derived.Test.YbulkdnxyModel
import Derived.StillTailTactics
import Derived.Deep.QuietTactic
import Derived.BigQuiet
import Derived.Deep.LoopGhost
import Derived.Deep.DeepCutAuto
namespace Go.Proofs.Ybulkdnxy
open Go.RowKit
set_option linter.unusedVariables false

abbrev tl : Code → Code
  | .seq _ b => b
  | c => c

set_option maxRecDepth 100000 in
set_option maxHeartbeats 8000000 in
theorem walk_six (na sa : Option Addr) (m nc j pc : Nat) (X : Nat → Src) (S : Nat → Sg) (w wc : World) (start : Option Nat) (hN : NRow w na m X) (hS : SRow w sa j S) (hnn : m ≤ 4096) (hpl : j ≤ 4096) (hstl : ∀ r, start = some r → r < m)
    (hB6 : Below w.heap.size w wc ∧ (∀ q, q < m → wc.cell? ⟨w.heap.size, q, none⟩ = some (.pointer (some ⟨w.heap.size + 1 + q, 0, none⟩))) ∧ w.heap.size < wc.heap.size)
    (c2 c3 c4 c7 c8 c9 c10 c11 c12 c13 c14 c15 c16 c17 c18 c19 c20 c21 c22 c25 c26 c27 c28 c29 c30 c31 c32 c33 c34 c35 c36 c37 c38 c39 c40 c41 c42 c43 c44 c45 c46 c47 c48 c49 c50 c51 c52 c53 c54 c55 c56 c57 c58 c59 c60 c61 c62 c63 c64 c65 c66 c67 c68 c69 c70 c71 c72 c73 c74 c75 c76 c77 c78 c79 c80 c81 c82 c83 c84 c85 c86 c87 c88 c89 c90 c91 c92 c93 c94 c95 c96 c97 c98 c99 c100 c101 c102 c103 c104 c105 c106 c107 c108 c109 c110 c111 c112 c113 c114 c115 c116 c117 c118 c119 c120 c121 c122 c123 c124 c125 c126 c127 c128 c129 c130 c131 c132 c133 c134 c135 c136 c137 c138 c139 c140 c141 c142 c143 c144 c145 c146 c147 c148 c149 c150 c151 c152 c153 c154 c155 c156 c157 c158 c159 c160 c161 c162 c163 c164 c165 c166 c167 c168 c169 c170 c171 c172 c173 c174 c175 c176 c177 c178 c179 c180 c181 c182 c183 c184 c185 c186 c187 c188 c189 c190 c191 c192 c193 c194 c195 c196 c197 c198 c199 c200 c201 c202 c203 c204 c205 c206 c207 c208 c209 c210 c211 c212 c213 c214 c215 c216 c217 c218 c219 c220 c221 c222 c223 c224 c225 c226 c227 c228 c229 c230 c231 c232 c233 c234 c235 c236 c237 c238 c239 c240 c241 c242 c243 c244 c245 c246 c247 c248 c249 c250 c251 c252 c253 c254 c255 c256 c257 c258 c259 c260 c261 c262 c263 c264 c265 c266 c267 c268 c269 c270 c271 c272 c273 c274 c275 c276 c277 c278 c279 c280 c281 : Value) :
    Code.wp Yba.prog (tl (tl (tl (tl (tl (tl (tl (tl (tl (tl (tl (tl (tl (Yba.f3.body.getD .skip)))))))))))))) (bodyPost Yba.prog Yba.f3 fun e w' => e = .returned (.bool true) ∧ Below w.heap.size w w')
      ⟨#[.slice na m nc, .slice sa j pc, c2, c3, c4, .int .i64 (m : Int), .slice (some ⟨w.heap.size, 0, none⟩) m m, c7, c8, c9, c10, c11, c12, c13, c14, c15, c16, c17, c18, c19, c20, c21, c22, .pointer (ptrA (w.heap.size + 1) (walkTo (fun i => (X i).d) m S start j)), .int .i64 (curI start), c25, c26, c27, c28, c29, c30, c31, c32, c33, c34, c35, c36, c37, c38, c39, c40, c41, c42, c43, c44, c45, c46, c47, c48, c49, c50, c51, c52, c53, c54, c55, c56, c57, c58, c59, c60, c61, c62, c63, c64, c65, c66, c67, c68, c69, c70, c71, c72, c73, c74, c75, c76, c77, c78, c79, c80, c81, c82, c83, c84, c85, c86, c87, c88, c89, c90, c91, c92, c93, c94, c95, c96, c97, c98, c99, c100, c101, c102, c103, c104, c105, c106, c107, c108, c109, c110, c111, c112, c113, c114, c115, c116, c117, c118, c119, c120, c121, c122, c123, c124, c125, c126, c127, c128, c129, c130, c131, c132, c133, c134, c135, c136, c137, c138, c139, c140, c141, c142, c143, c144, c145, c146, c147, c148, c149, c150, c151, c152, c153, c154, c155, c156, c157, c158, c159, c160, c161, c162, c163, c164, c165, c166, c167, c168, c169, c170, c171, c172, c173, c174, c175, c176, c177, c178, c179, c180, c181, c182, c183, c184, c185, c186, c187, c188, c189, c190, c191, c192, c193, c194, c195, c196, c197, c198, c199, c200, c201, c202, c203, c204, c205, c206, c207, c208, c209, c210, c211, c212, c213, c214, c215, c216, c217, c218, c219, c220, c221, c222, c223, c224, c225, c226, c227, c228, c229, c230, c231, c232, c233, c234, c235, c236, c237, c238, c239, c240, c241, c242, c243, c244, c245, c246, c247, c248, c249, c250, c251, c252, c253, c254, c255, c256, c257, c258, c259, c260, c261, c262, c263, c264, c265, c266, c267, c268, c269, c270, c271, c272, c273, c274, c275, c276, c277, c278, c279, c280, c281], []⟩ wc := by
  conv => arg 2; whnf
  have HN : Hid (NRow w na m X) := hN
  have HS : Hid (SRow w sa j S) := hS
  have HB6 : Hid (Below w.heap.size w wc ∧ (∀ q, q < m → wc.cell? ⟨w.heap.size, q, none⟩ = some (.pointer (some ⟨w.heap.size + 1 + q, 0, none⟩))) ∧ w.heap.size < wc.heap.size) := hB6
  clear hN hS hB6
  have HR6 : Hid (∀ q, walkTo (fun i => (X i).d) m S start j = some q → q < m) := fun q hq => walkTo_lt hstl j q hq
  go_wp2
  go_loopg [24, 202] j (fun q c i wq => ∃ t : Nat, t ≤ j ∧ q = j - t ∧ i = .int .i64 t ∧ c = .int .i64 (curI (walkTo (fun i => (X i).d) m S start t)) ∧ Below wc.heap.size wc wq)
  case atStart => exact ⟨0, Nat.zero_le _, rfl, rfl, rfl, Below.refl _ _⟩
  case round =>
    obtain ⟨t, ht, rfl, rfl, rfl, hbt⟩ := hrel
    have HBT : Hid (Below wc.heap.size wc wr) := hbt
    clear hbt
    have hb7 : Hid (Below w.heap.size w wr) := HB6.out.1.trans (HBT.out.mono (Nat.le_of_lt HB6.out.2.2))
    have HROW : Hid (∀ q, q < m → wr.cell? ⟨w.heap.size, q, none⟩ = some (.pointer (some ⟨w.heap.size + 1 + q, 0, none⟩))) := fun q hq => (HBT.out.cell (p := ⟨w.heap.size, q, none⟩) HB6.out.2.2).trans (HB6.out.2.1 q hq)
    by_cases htj : t < j
    · cases hwt : walkTo (fun i => (X i).d) m S start t with
      | none =>
        have HE : walkTo (fun i => (X i).d) m S start j = none := walkTo_none hwt j (by omega)
        obtain ⟨sb, so, rfl, hsl, hsc⟩ := HS.out (by omega)
        obtain ⟨c0, c1, c2, hk0, hk1, hi0, hi1⟩ := hsc t htj
        clear hsc
        have e0 := (hb7.out.cell (p := ⟨sb, so + t * 3, none⟩) hsl).trans c0
        have e1 := (hb7.out.cell (p := ⟨sb, so + t * 3 + 1, none⟩) hsl).trans c1
        have e2 := (hb7.out.cell (p := ⟨sb, so + t * 3 + 2, none⟩) hsl).trans c2
        clear c0 c1 c2
        rw [HE, curI_none]
        simp only [ptrA, Option.map_none]
        clear HE hwt
        go_wp2_with fail
        go_ret
        exact ⟨rfl, hb7.out.alloc (Nat.le_of_lt (Nat.lt_of_lt_of_le HB6.out.2.2 HBT.out.size)) _⟩
      | some r =>
        have hrm : r < m := walkTo_lt hstl t r hwt
        obtain ⟨sb, so, rfl, hsl, hsc⟩ := HS.out (by omega)
        obtain ⟨c0, c1, c2, hk0, hk1, hi0, hi1⟩ := hsc t htj
        clear hsc
        have e0 := (hb7.out.cell (p := ⟨sb, so + t * 3, none⟩) hsl).trans c0
        have e1 := (hb7.out.cell (p := ⟨sb, so + t * 3 + 1, none⟩) hsl).trans c1
        have e2 := (hb7.out.cell (p := ⟨sb, so + t * 3 + 2, none⟩) hsl).trans c2
        clear c0 c1 c2
        obtain ⟨nb, no, rfl, hnb, hcn⟩ := HN.out (by omega)
        obtain ⟨c0, c1, c2, c3, hgood⟩ := hcn r hrm
        clear hcn
        have g0 := (hb7.out.cell (p := ⟨nb, no + r * 4, none⟩) hnb).trans c0
        have g1 := (hb7.out.cell (p := ⟨nb, no + r * 4 + 1, none⟩) hnb).trans c1
        have g2 := (hb7.out.cell (p := ⟨nb, no + r * 4 + 2, none⟩) hnb).trans c2
        have g3 := (hb7.out.cell (p := ⟨nb, no + r * 4 + 3, none⟩) hnb).trans c3
        clear c0 c1 c2 c3
        have HNX : Hid (walkTo (fun i => (X i).d) m S start (t + 1) = stepF (X r).d m (S t)) := by show _ = _; simp only [walkTo]; rw [hwt]; rfl
        generalize hsg : S t = sg at e0 e1 e2 hk0 hk1 hi0 hi1 HNX
        generalize hx : X r = x at g0 g1 g2 g3 hgood HNX
        clear hsg hx
        obtain ⟨ka, kc, da, dc, ia, ic, d⟩ := x
        dsimp only at g0 g1 g2 g3 HNX
        have HG : Hid (Good w ⟨ka, kc, da, dc, ia, ic, d⟩) := hgood
        clear hgood
        have hbi : d.ni * 8 ≤ 140737488351232 := HG.out.bi
        have hbk : d.nk ≤ 140737488351232 := HG.out.bk
        have hbd : d.nd ≤ 140737488351232 := HG.out.bd
        have hwl : w.heap.size < wr.heap.size := Nat.lt_of_lt_of_le HB6.out.2.2 HBT.out.size
        have hnl : nb < wr.heap.size := by omega
        rw [curI_some]
        clear hwt
        rcases kind3 sg.kind hk0 with h3 | h3 | h3
        · have HSTEP : Hid (walkTo (fun i => (X i).d) m S start (t + 1) = (keyF d m d.nk sg.K).getD none) := HNX.out.trans (step_0 h3)
          obtain ⟨W7, rfl⟩ : ∃ W7, W7 = wr := ⟨_, rfl⟩
          go_wp2
          go_loopg [28, 29] (d.nk) (fun q nx jv wq => ∃ v : Nat, v ≤ d.nk ∧ q = v + 0 ∧ jv = .int .i64 ((v : Int) - 1) ∧ nx = .int .i64 (-1) ∧ keyF d m d.nk sg.K = keyF d m v sg.K ∧ Below W7.heap.size W7 wq ∧ wq.heap[W7.heap.size]? = some (sObj sg) ∧ wq.heap[W7.heap.size + 1]? = some (dObj ⟨ka, kc, da, dc, ia, ic, d⟩))
          case atStart =>
            refine ⟨d.nk, Nat.le_refl _, rfl, rfl, rfl, rfl, ((Below.refl _ _).alloc (Nat.le_refl _) _).alloc (by simp) _, ?_, ?_⟩
            · rw [Below.heap_alloc _ _ _ (by simp)]; exact heap_alloc_new _ _
            · exact new_at _ _ (by simp)
          case round =>
            clear e0 e1 e2 g0 g1 g2 g3
            obtain ⟨v, hv, hgv, rfl, rfl, hkf, hbv, hso, hdo⟩ := hrel
            have HGV : Hid (gk = v + 0) := hgv
            clear hgv
            have HKF : Hid (keyF d m d.nk sg.K = keyF d m v sg.K) := hkf
            have HBV : Hid (Below W7.heap.size W7 wr ∧ wr.heap[W7.heap.size]? = some (sObj sg) ∧ wr.heap[W7.heap.size + 1]? = some (dObj ⟨ka, kc, da, dc, ia, ic, d⟩)) := ⟨hbv, hso, hdo⟩
            obtain ⟨s0, s1, s2⟩ := s_cells hso
            obtain ⟨d0, d1, d2, d3⟩ := d_cells hdo
            dsimp only at d0 d1 d2 d3
            clear hkf hbv hso hdo
            have HBW : Hid (Below wc.heap.size wc wr) := HBT.out.trans (HBV.out.1.mono HBT.out.size)
            cases v with
            | zero =>
              have HE0 : Hid (walkTo (fun i => (X i).d) m S start (t + 1) = none) := by show _ = _; rw [HSTEP.out, HKF.out]; rfl
              clear HSTEP s0 s1 s2 d0 d1 d2 d3
              rw [show ((0 : Nat) : Int) - 1 = -1 from rfl]
              go_wp2
              go_roundg (j - (t + 1))
              case measure => omega
              case rel => exact ⟨t + 1, by omega, rfl, by go_num, by rw [HE0.out, curI_none], HBW.out⟩
            | succ v =>
              rw [show ((v + 1 : Nat) : Int) - 1 = (v : Int) from by omega]
              have i0 : (0 : Int) ≤ (v : Int) := by omega
              have i1 : (v : Int) < (d.nk : Int) := by omega
              obtain ⟨kb, ko, hka, hkl, hkc⟩ := HG.out.keys (by dsimp only; omega)
              dsimp only at hka hkc
              subst hka
              have hbw7 : Hid (Below w.heap.size w wr) := hb7.out.trans (HBV.out.1.mono (by omega))
              have ck := (hbw7.out.cell (p := ⟨kb, ko + v, none⟩) hkl).trans (hkc v (by omega))
              clear hkc
              by_cases hkk : sg.K = d.K v
              · have hbq : ((d.K v).toList == sg.K.toList) = true := by rw [toList_beq]; simp [hkk]
                have HE1 : Hid (walkTo (fun i => (X i).d) m S start (t + 1) = kidF d m v) := by show _ = _; rw [HSTEP.out, HKF.out, keyF_hit hkk]; rfl
                clear hkk HSTEP HKF
                by_cases hvd : v < d.nd
                · have HE2 : Hid (walkTo (fun i => (X i).d) m S start (t + 1) = pickF (d.D v) m) := HE1.out.trans (by unfold kidF; rw [if_pos hvd])
                  obtain ⟨db, dof, hda, hdl, hdc⟩ := HG.out.kids (by dsimp only; omega)
                  dsimp only at hda hdc
                  subst hda
                  have cd := (hbw7.out.cell (p := ⟨db, dof + v, none⟩) hdl).trans (hdc v hvd)
                  clear hdc
                  go_wp2
                  go_quiet (fail)
                  go_wp2_with (go_at_call 4; refine (pick_any (d.D v) m _ hnn (HG.out.rd v).1 (HG.out.rd v).2).mono ?_; rintro e wp ⟨rfl, rfl⟩)
                  go_roundg (j - (t + 1))
                  case measure => omega
                  case rel => exact ⟨t + 1, by omega, rfl, by go_num, by rw [HE2.out, pick_cur], below_drewN HBW.out _⟩
                · have HE2 : Hid (walkTo (fun i => (X i).d) m S start (t + 1) = none) := HE1.out.trans (by unfold kidF; rw [if_neg hvd])
                  go_wp2
                  go_quiet (fail)
                  go_wp2
                  go_roundg (j - (t + 1))
                  case measure => omega
                  case rel => exact ⟨t + 1, by omega, rfl, by go_num, by rw [HE2.out, curI_none], below_drewN HBW.out _⟩
              · have hbq : ((d.K v).toList == sg.K.toList) = false := by rw [toList_beq]; simp; intro h; exact hkk h.symm
                have HKF2 : Hid (keyF d m d.nk sg.K = keyF d m v sg.K) := HKF.out.trans (keyF_miss hkk)
                clear hkk HKF
                go_wp2
                go_quiet (fail)
                go_wp2
                go_roundg (v + 0)
                case measure => have hgv := HGV.out; omega
                case rel => exact ⟨v, by omega, rfl, by go_num, rfl, HKF2.out, below_drewN HBV.out.1 _, HBV.out.2.1, HBV.out.2.2⟩
        · by_cases hin : 0 ≤ sg.I ∧ sg.I < (d.ni : Int)
          · obtain ⟨q, hq⟩ := Int.eq_ofNat_of_zero_le hin.1
            have hqn : q < d.ni := by omega
            have HSTEP : Hid (walkTo (fun i => (X i).d) m S start (t + 1) = pickF (d.I q) m) := HNX.out.trans (step_1 h3 hq hqn)
            obtain ⟨ib, io, hia, hil, hic⟩ := HG.out.items (by dsimp only; omega)
            dsimp only at hia hic
            subst hia
            have ci := (hb7.out.cell (p := ⟨ib, io + q, none⟩) hil).trans (hic q hqn)
            have hibl : ib < wr.heap.size := by omega
            clear hic
            rw [hq] at e2
            clear hq hin
            go_wp2_with (go_at_call 4; refine (pick_any (d.I q) m _ hnn (HG.out.ri q).1 (HG.out.ri q).2).mono ?_; rintro e wp ⟨rfl, rfl⟩)
            go_roundg (j - (t + 1))
            case measure => omega
            case rel => exact ⟨t + 1, by omega, rfl, by go_num, by rw [HSTEP.out, pick_cur], (HBT.out.alloc HBT.out.size _).alloc (by have := HBT.out.size; simp; omega) _⟩
          · have HSTEP : Hid (walkTo (fun i => (X i).d) m S start (t + 1) = none) := HNX.out.trans (step_1n h3 hin)
            rcases (show sg.I < 0 ∨ (0 ≤ sg.I ∧ (d.ni : Int) ≤ sg.I) from by omega) with hI | ⟨hI, hI2⟩
            all_goals
              clear hin
              go_wp2
              go_roundg (j - (t + 1))
              case measure => omega
              case rel => exact ⟨t + 1, by omega, rfl, by go_num, by rw [HSTEP.out, curI_none], (HBT.out.alloc HBT.out.size _).alloc (by have := HBT.out.size; simp; omega) _⟩
        · have HSTEP : Hid (walkTo (fun i => (X i).d) m S start (t + 1) = pickF d.fm m) := HNX.out.trans (step_2 h3)
          go_wp2_with (go_at_call 4; refine (pick_any d.fm m _ hnn HG.out.rf.1 HG.out.rf.2).mono ?_; rintro e wp ⟨rfl, rfl⟩)
          go_roundg (j - (t + 1))
          case measure => omega
          case rel => exact ⟨t + 1, by omega, rfl, by go_num, by rw [HSTEP.out, pick_cur], (HBT.out.alloc HBT.out.size _).alloc (by have := HBT.out.size; simp; omega) _⟩
    · have htj' : t = j := by omega
      subst htj'
      cases hwt : walkTo (fun i => (X i).d) m S start t with
      | none =>
        simp only [curI, ptrA, Option.map_none]
        clear hwt
        go_wp2_with fail
        go_ret
        exact ⟨rfl, hb7.out⟩
      | some r =>
        have hrm := HR6.out r hwt
        have cr := HROW.out r hrm
        have hpp := eql25_same
        simp only [curI, ptrA, Option.map_some]
        clear hwt
        go_wp2_with fail
        go_ret
        exact ⟨rfl, hb7.out⟩
end Go.Proofs.Ybulkdnxy
