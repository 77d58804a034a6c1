/-
  The fifth loop of zzs0750acheck (over the parts of one line), as a theorem of its own: the frame's other slots are letters.
-/
import Derived.Test.YbulkomwInput
namespace Go.Proofs.Ybulkomw
open Go.RowKit

set_option maxHeartbeats 4000000 in
set_option maxRecDepth 100000 in
theorem loop5 {a0 : Option Addr} {n ab ao : Nat} {A : Nat → Option Addr} {L C rb ro : Nat → Nat} {I : Nat → Nat → Inp} {sel : Int} {w : World} (H : Input w a0 n ab ao A L C rb ro I) (_hs0 : 0 ≤ sel) (_hs1 : sel ≤ 255)
    {lb nb : Nat} {w4 : World} (hD : Done w n L I (sel % 5).toNat lb nb w4) {s : Nat} (hslt : s < n) (hlr : L s ≤ 1024) {ws : World} (hb4 : Below w4.heap.size w4 ws)
    {c0 c1 c2 c3 c4 c5 c6 c7 c8 c9 c10 c12 c13 c14 c15 c16 c17 c19 c20 c21 c22 c23 c25 c26 c27 c28 c29 c30 c31 c32 c33 c34 c35 c36 c37 c38 c39 c40 c41 c42 c43 c44 c45 c46 c47 c48 c49 c50 c51 c52 c53 c54 c55 c56 c57 c58 c59 c60 c61 c62 c63 c64 c65 c66 c67 c68 c69 c70 c71 c72 c73 c74 c75 c76 c77 c78 c79 c80 c81 c82 c83 c84 c85 c86 c87 c88 c89 c90 c91 c92 c93 c94 c95 c96 c97 c98 c99 c100 c101 c102 c103 c104 c105 c106 c107 c108 c109 c110 c111 c112 c113 c114 c115 c116 c117 c118 c119 c120 c121 c122 c123 c124 c125 c126 c127 c128 c129 c130 c131 c132 c133 c134 c135 c136 c137 c138 c139 c140 c141 c142 c143 c144 c145 c146 c147 c148 c149 c150 c151 c152 c153 c154 c155 c156 c157 c158 c159 c160 c161 c162 c163 c164 c165 c166 c167 c168 c169 c170 c171 c172 c173 c174 c175 c176 c177 c178 c179 c183 c184 c185 c186 c187 c188 c189 c190 c191 c192 c193 c194 c195 c196 c197 c198 c199 c200 c201 c202 c203 c204 c205 c206 c207 c208 c209 c210 c211 c212 c213 c214 c215 c216 c217 c218 c219 c220 c221 c222 c223 c224 c225 c226 c227 c228 c229 c230 c231 c232 c233 c234 c235 c236 c237 c238 c239 c240 c241 c242 c243 c244 c245 c246 c247 c248 c249 c250 : Value} (E : Act → World → Prop)
    (hexit : ∀ (u6 u25 u26 u27 u28 u29 u182 u183 u184 u185 u186 u187 u188 u189 u190 u191 u192 u193 u194 u195 u196 u197 u198 u199 u200 u201 u202 u203 u204 u205 u206 u207 u208 u209 u210 u211 u212 u213 u214 u215 u216 u217 u218 u219 u220 u221 u222 u223 u224 u225 u226 u227 u228 u229 u230 u231 u232 u233 u234 u235 u236 u237 u238 u239 u240 u241 u242 u243 u244 u245 u246 u247 u248 u249 : Value) (wx : World), Below w4.heap.size w4 wx → E ⟨List.toArray (c0 :: c1 :: c2 :: c3 :: c4 :: c5 :: u6 :: c7 :: c8 :: c9 :: c10 :: (Value.pointer (some ⟨w.heap.size + 1 + 1 + 1 + 1 + 1, 0, none⟩)) :: c12 :: c13 :: c14 :: c15 :: c16 :: c17 :: (Value.int .i64 (sel % 5)) :: c19 :: c20 :: c21 :: c22 :: c23 :: (Value.slice (some ⟨gp (w.heap.size + 7) L s, 0, none⟩) (L s) (L s)) :: u25 :: u26 :: u27 :: u28 :: u29 :: c30 :: c31 :: c32 :: c33 :: c34 :: c35 :: c36 :: c37 :: c38 :: c39 :: c40 :: c41 :: c42 :: c43 :: c44 :: c45 :: c46 :: c47 :: c48 :: c49 :: c50 :: c51 :: c52 :: c53 :: c54 :: c55 :: c56 :: c57 :: c58 :: c59 :: c60 :: c61 :: c62 :: c63 :: c64 :: c65 :: c66 :: c67 :: c68 :: c69 :: c70 :: c71 :: c72 :: c73 :: c74 :: c75 :: c76 :: c77 :: c78 :: c79 :: c80 :: c81 :: c82 :: c83 :: c84 :: c85 :: c86 :: c87 :: c88 :: c89 :: c90 :: c91 :: c92 :: c93 :: c94 :: c95 :: c96 :: c97 :: c98 :: c99 :: c100 :: c101 :: c102 :: c103 :: c104 :: c105 :: c106 :: c107 :: c108 :: c109 :: c110 :: c111 :: c112 :: c113 :: c114 :: c115 :: c116 :: c117 :: c118 :: c119 :: c120 :: c121 :: c122 :: c123 :: c124 :: c125 :: c126 :: c127 :: c128 :: c129 :: c130 :: c131 :: c132 :: c133 :: c134 :: c135 :: c136 :: c137 :: c138 :: c139 :: c140 :: c141 :: c142 :: c143 :: c144 :: c145 :: c146 :: c147 :: c148 :: c149 :: c150 :: c151 :: c152 :: c153 :: c154 :: c155 :: c156 :: c157 :: c158 :: c159 :: c160 :: c161 :: c162 :: c163 :: c164 :: c165 :: c166 :: c167 :: c168 :: c169 :: c170 :: c171 :: c172 :: c173 :: c174 :: c175 :: c176 :: c177 :: c178 :: c179 :: (Value.slice (A s) (L s) (C s)) :: (Value.int .i64 (L s)) :: u182 :: u183 :: u184 :: u185 :: u186 :: u187 :: u188 :: u189 :: u190 :: u191 :: u192 :: u193 :: u194 :: u195 :: u196 :: u197 :: u198 :: u199 :: u200 :: u201 :: u202 :: u203 :: u204 :: u205 :: u206 :: u207 :: u208 :: u209 :: u210 :: u211 :: u212 :: u213 :: u214 :: u215 :: u216 :: u217 :: u218 :: u219 :: u220 :: u221 :: u222 :: u223 :: u224 :: u225 :: u226 :: u227 :: u228 :: u229 :: u230 :: u231 :: u232 :: u233 :: u234 :: u235 :: u236 :: u237 :: u238 :: u239 :: u240 :: u241 :: u242 :: u243 :: u244 :: u245 :: u246 :: u247 :: u248 :: u249 :: c250 :: []), []⟩ wx) :
    Code.wp Yba.prog ((loopsOf (Yba.f5.body.getD .skip)).getD 4 .skip) (exitOnly 8 E) ⟨List.toArray (c0 :: c1 :: c2 :: c3 :: c4 :: c5 :: c6 :: c7 :: c8 :: c9 :: c10 :: (Value.pointer (some ⟨w.heap.size + 1 + 1 + 1 + 1 + 1, 0, none⟩)) :: c12 :: c13 :: c14 :: c15 :: c16 :: c17 :: (Value.int .i64 (sel % 5)) :: c19 :: c20 :: c21 :: c22 :: c23 :: (Value.slice (some ⟨gp (w.heap.size + 7) L s, 0, none⟩) (L s) (L s)) :: c25 :: c26 :: c27 :: c28 :: c29 :: c30 :: c31 :: c32 :: c33 :: c34 :: c35 :: c36 :: c37 :: c38 :: c39 :: c40 :: c41 :: c42 :: c43 :: c44 :: c45 :: c46 :: c47 :: c48 :: c49 :: c50 :: c51 :: c52 :: c53 :: c54 :: c55 :: c56 :: c57 :: c58 :: c59 :: c60 :: c61 :: c62 :: c63 :: c64 :: c65 :: c66 :: c67 :: c68 :: c69 :: c70 :: c71 :: c72 :: c73 :: c74 :: c75 :: c76 :: c77 :: c78 :: c79 :: c80 :: c81 :: c82 :: c83 :: c84 :: c85 :: c86 :: c87 :: c88 :: c89 :: c90 :: c91 :: c92 :: c93 :: c94 :: c95 :: c96 :: c97 :: c98 :: c99 :: c100 :: c101 :: c102 :: c103 :: c104 :: c105 :: c106 :: c107 :: c108 :: c109 :: c110 :: c111 :: c112 :: c113 :: c114 :: c115 :: c116 :: c117 :: c118 :: c119 :: c120 :: c121 :: c122 :: c123 :: c124 :: c125 :: c126 :: c127 :: c128 :: c129 :: c130 :: c131 :: c132 :: c133 :: c134 :: c135 :: c136 :: c137 :: c138 :: c139 :: c140 :: c141 :: c142 :: c143 :: c144 :: c145 :: c146 :: c147 :: c148 :: c149 :: c150 :: c151 :: c152 :: c153 :: c154 :: c155 :: c156 :: c157 :: c158 :: c159 :: c160 :: c161 :: c162 :: c163 :: c164 :: c165 :: c166 :: c167 :: c168 :: c169 :: c170 :: c171 :: c172 :: c173 :: c174 :: c175 :: c176 :: c177 :: c178 :: c179 :: (Value.slice (A s) (L s) (C s)) :: (Value.int .i64 (L s)) :: (Value.int .i64 0) :: c183 :: c184 :: c185 :: c186 :: c187 :: c188 :: c189 :: c190 :: c191 :: c192 :: c193 :: c194 :: c195 :: c196 :: c197 :: c198 :: c199 :: c200 :: c201 :: c202 :: c203 :: c204 :: c205 :: c206 :: c207 :: c208 :: c209 :: c210 :: c211 :: c212 :: c213 :: c214 :: c215 :: c216 :: c217 :: c218 :: c219 :: c220 :: c221 :: c222 :: c223 :: c224 :: c225 :: c226 :: c227 :: c228 :: c229 :: c230 :: c231 :: c232 :: c233 :: c234 :: c235 :: c236 :: c237 :: c238 :: c239 :: c240 :: c241 :: c242 :: c243 :: c244 :: c245 :: c246 :: c247 :: c248 :: c249 :: c250 :: []), []⟩ ws := by
  conv => arg 2; whnf
  have hws : w.heap.size ≤ w4.heap.size := hD.below.size
  go_loopw [182] (fun c wr => ∃ j : Nat, j ≤ L s ∧ c = .int .i64 j ∧ Below w4.heap.size w4 wr) (fun c _ => L s - (intOf c).toNat)
  case atStart => exact ⟨0, Nat.zero_le _, rfl, hb4⟩
  case round =>
    clear hb4
    obtain ⟨j, hj, rfl, hb⟩ := hrel
    by_cases hjlt : j < L s
    · clear hexit
      obtain ⟨e1, hrb, x0, x1, x2, x3, x4, x5⟩ := H.elem s hslt j hjlt
      obtain ⟨f0, f1⟩ := H.file s hslt j hjlt
      have hbl : Below w.heap.size w wr := hD.below.trans (hb.mono hws)
      have y0 := (hbl.cell (p := ⟨rb s, ro s + j * 6, none⟩) hrb).trans x0
      have y1 := (hbl.cell (p := ⟨rb s, ro s + j * 6 + 1, none⟩) hrb).trans x1
      have y2 := (hbl.cell (p := ⟨rb s, ro s + j * 6 + 2, none⟩) hrb).trans x2
      have y3 := (hbl.cell (p := ⟨rb s, ro s + j * 6 + 3, none⟩) hrb).trans x3
      have y4 := (hbl.cell (p := ⟨rb s, ro s + j * 6 + 4, none⟩) hrb).trans x4
      have y5 := (hbl.cell (p := ⟨rb s, ro s + j * 6 + 5, none⟩) hrb).trans x5
      have hfa : ∀ o, (wr.alloc o).cell? ⟨w.heap.size + 1 + 1 + 1 + 1 + 1, ((I s j).file % 5).toNat, none⟩ = some (.pointer (fad w.heap.size (I s j).kf)) := fun o => by
        have := ((hD.arr.below hb hD.arr.lt).alloc o).cell (I s j).kf
        rw [filesArr_at _ _ (I s j).kf_lt] at this
        exact this
      have hfb : ∀ o o', ((wr.alloc o).alloc o').cell? ⟨w.heap.size + 1 + 1 + 1 + 1 + 1, ((I s j).file % 5).toNat, none⟩ = some (.pointer (fad w.heap.size (I s j).kf)) := fun o o' => by
        have := (((hD.arr.below hb hD.arr.lt).alloc o).alloc o').cell (I s j).kf
        rw [filesArr_at _ _ (I s j).kf_lt] at this
        exact this
      clear x0 x1 x2 x3 x4 x5
      go_wp2
      go_big_region
      go_upto_region 50 with fail
      obtain ⟨wk, hwk⟩ : ∃ wk : World, wk = ((wr.alloc (.cells #[.bool (I s j).held, .int .u8 (I s j).file, .int .i64 (I s j).s, .int .i64 (I s j).e, .int .i64 (I s j).k, .int .i64 (I s j).n] 39)).alloc (.cells #[.pointer (fad w.heap.size (I s j).kf), .int .i64 (I s j).s, .int .i64 (I s j).e, .int .i64 (I s j).k, .int .i64 (I s j).n] 41)).drew := ⟨_, rfl⟩
      rw [← hwk]
      go_cut [29] from 183 to 249 (fun x wc => x = .bool (smB ((I s j).file % 5) (sel % 5)) ∧ wk = wc)
      case first =>
        clear hfa hfb y0 y1 y2 y3 y4 y5 hwk e1
        by_cases ha : (I s j).file % 5 = sel % 5
        · as_aux_lemma =>
            have hb0 : ((I s j).file % 5 == sel % 5) = true := by simp [ha]
            have HF : Hid (smB ((I s j).file % 5) (sel % 5) = true) := smB_a ha
            clear ha
            go_wp2
            go_meet
            case rel => exact ⟨by rw [HF.out], rfl⟩
        · have hb0 : ((I s j).file % 5 == sel % 5) = false := by simp [ha]
          by_cases h12 : (I s j).file % 5 = 1 ∨ (I s j).file % 5 = 2
          · by_cases l12 : sel % 5 = 1 ∨ sel % 5 = 2
            · as_aux_lemma =>
                have HF : Hid (smB ((I s j).file % 5) (sel % 5) = true) := smB_c h12 l12
                go_wp2_with (go_at_call 7; refine (id_yes _ _ (by assumption)).mono ?_; rintro e w' ⟨rfl, rfl⟩)
                go_meet
                case rel => exact ⟨by rw [HF.out], rfl⟩
            · as_aux_lemma =>
                have HF : Hid (smB ((I s j).file % 5) (sel % 5) = false) := smB_d ha l12
                go_wp2_with (first | (go_at_call 7; refine (id_yes _ _ (by assumption)).mono ?_; rintro e w' ⟨rfl, rfl⟩) | (go_at_call 7; refine (id_no _ _ (by assumption)).mono ?_; rintro e w' ⟨rfl, rfl⟩))
                go_meet
                case rel => exact ⟨by rw [HF.out], rfl⟩
          · as_aux_lemma =>
              have HF : Hid (smB ((I s j).file % 5) (sel % 5) = false) := smB_b ha h12
              go_wp2_with (go_at_call 7; refine (id_no _ _ (by assumption)).mono ?_; rintro e w' ⟨rfl, rfl⟩)
              go_meet
              case rel => exact ⟨by rw [HF.out], rfl⟩
      case rest =>
        obtain ⟨rfl, rfl⟩ := hcut
        as_aux_lemma =>
        have bp : Blk wk wr.heap.size #[.bool (I s j).held, .int .u8 (I s j).file, .int .i64 (I s j).s, .int .i64 (I s j).e, .int .i64 (I s j).k, .int .i64 (I s j).n] 39 := by
          rw [hwk]; exact ((Blk.new _ _ _ _ rfl).alloc _).drew
        have bw : Blk wk (wr.heap.size + 1) #[.pointer (fad w.heap.size (I s j).kf), .int .i64 (I s j).s, .int .i64 (I s j).e, .int .i64 (I s j).k, .int .i64 (I s j).n] 41 := by
          rw [hwk]; exact (Blk.new _ _ _ _ (by simp)).drew
        have hbk : Below w4.heap.size w4 wk := by
          rw [hwk]; exact ((hb.alloc hb.size _).alloc (by have := hb.size; simp; omega) _).drew
        clear hwk hfa hfb y0 y1 y2 y3 y4 y5 e1
        have kp0 := bp.cell 0
        simp at kp0
        go_upto_region 51 with fail
        go_cut [230] from 183 to 249 (fun x wc => x = .bool (cndB (I s j) sel) ∧ wk = wc)
        case first =>
          clear bp bw hbk hb
          cases hh : (I s j).held
          · as_aux_lemma =>
              have HF : Hid (cndB (I s j) sel = false) := cnd_held hh
              rw [hh] at kp0
              clear hh
              go_wp2
              go_meet
              case rel => exact ⟨by rw [HF.out], rfl⟩
          · by_cases hl0 : sel % 5 = 0
            · as_aux_lemma =>
                have HF : Hid (cndB (I s j) sel = false) := cnd_left hl0
                have hb1 : (sel % 5 != 0) = false := by simp [hl0]
                rw [hh] at kp0
                clear hh hl0
                go_wp2
                go_meet
                case rel => exact ⟨by rw [HF.out], rfl⟩
            · have hb1 : (sel % 5 != 0) = true := by simp [hl0]
              by_cases hk0 : (I s j).file % 5 = 0
              · as_aux_lemma =>
                  have HF : Hid (cndB (I s j) sel = false) := cnd_k hk0
                  have hb2 : ((I s j).file % 5 != 0) = false := by simp [hk0]
                  rw [hh] at kp0
                  clear hh hk0 hl0
                  go_wp2
                  go_meet
                  case rel => exact ⟨by rw [HF.out], rfl⟩
              · as_aux_lemma =>
                  have HF : Hid (cndB (I s j) sel = smB ((I s j).file % 5) (sel % 5)) := cnd_sm hh hk0
                  have hb2 : ((I s j).file % 5 != 0) = true := by simp [hk0]
                  rw [hh] at kp0
                  clear hh hk0 hl0
                  go_wp2
                  go_meet
                  case rel => exact ⟨by rw [HF.out], rfl⟩
        case rest =>
          obtain ⟨rfl, rfl⟩ := hcut
          as_aux_lemma =>
          have hgd : ∀ x y xs ys (w : World), (eqGuard .neq 41 x y (.agg xs) (.agg ys)).run Yba.prog w = .ok () w := fun x y xs ys w => run_eqGuard_agg w .neq 41 x y xs ys (by kernel_rfl)
          have hneq := neq41
          have hrow := (hD.rows s hslt).below hbk (hD.rows s hslt).lt
          have hge : w4.heap.size ≤ wr.heap.size := hb.size
          have hglt := (hD.rows s hslt).lt
          cases hc : cndB (I s j) sel
          · as_aux_lemma =>
              have hrow' := hrow.congr (D' := fun j => left (fun j => (I s j).kf) (fun j => (I s j).part w.heap.size) (sel % 5).toNat j) (fun _ _ => rfl)
              have g0 := hrow'.cell hjlt (q := 0) (by omega)
              have g1 := hrow'.cell hjlt (q := 1) (by omega)
              have g2 := hrow'.cell hjlt (q := 2) (by omega)
              have g3 := hrow'.cell hjlt (q := 3) (by omega)
              have g4 := hrow'.cell hjlt (q := 4) (by omega)
              have g5 := hrow'.cell hjlt (q := 5) (by omega)
              simp only [left_no hc, pcell, Nat.add_zero] at g0 g1 g2 g3 g4 g5
              simp only [Inp.part] at g0 g1 g2 g3 g4 g5
              have k0 := bw.cell 0
              have k1 := bw.cell 1
              have k2 := bw.cell 2
              have k3 := bw.cell 3
              have k4 := bw.cell 4
              simp at k0 k1 k2 k3 k4
              clear hc hrow hrow' bw bp
              go_wp2
              go_quiet (fail)
              go_wp2
              go_roundw
              case rel => exact ⟨j + 1, by omega, by go_num, below_drewN hbk _⟩
              case measure => simp [intOf]; omega
          · as_aux_lemma =>
              have hset := ((((bw.setSame 0 (.pointer none)).setSame 1 (.int .i64 0)).setSame 2 (.int .i64 0)).setSame 3 (.int .i64 0)).setSame 4 (.int .i64 0)
              have hbz : Below w4.heap.size w4 (((((wk.setCell ⟨wr.heap.size + 1, 0, none⟩ (.pointer none)).setCell ⟨wr.heap.size + 1, 1, none⟩ (.int .i64 0)).setCell ⟨wr.heap.size + 1, 2, none⟩ (.int .i64 0)).setCell ⟨wr.heap.size + 1, 3, none⟩ (.int .i64 0)).setCell ⟨wr.heap.size + 1, 4, none⟩ (.int .i64 0)) :=
                ((((hbk.setCell (by simp; omega) _).setCell (by simp; omega) _).setCell (by simp; omega) _).setCell (by simp; omega) _).setCell (by simp; omega) _
              have hrz : PRow (((((wk.setCell ⟨wr.heap.size + 1, 0, none⟩ (.pointer none)).setCell ⟨wr.heap.size + 1, 1, none⟩ (.int .i64 0)).setCell ⟨wr.heap.size + 1, 2, none⟩ (.int .i64 0)).setCell ⟨wr.heap.size + 1, 3, none⟩ (.int .i64 0)).setCell ⟨wr.heap.size + 1, 4, none⟩ (.int .i64 0)) (gp (w.heap.size + 7) L s) (L s) (fun j => left (fun j => (I s j).kf) (fun j => (I s j).part w.heap.size) (sel % 5).toNat j) :=
                ((((hrow.setOther (by simp; omega) _).setOther (by simp; omega) _).setOther (by simp; omega) _).setOther (by simp; omega) _).setOther (by simp; omega) _
              have hpz := ((((bp.setOther (a := ⟨wr.heap.size + 1, 0, none⟩) (by simp) (.pointer none)).setOther (a := ⟨wr.heap.size + 1, 1, none⟩) (by simp) (.int .i64 0)).setOther (a := ⟨wr.heap.size + 1, 2, none⟩) (by simp) (.int .i64 0)).setOther (a := ⟨wr.heap.size + 1, 3, none⟩) (by simp) (.int .i64 0)).setOther (a := ⟨wr.heap.size + 1, 4, none⟩) (by simp) (.int .i64 0)
              have k0 := bw.cell 0
              have k1 := bw.cell 1
              have k2 := bw.cell 2
              have k3 := bw.cell 3
              have k4 := bw.cell 4
              have kf := bw.frozen
              simp at k0 k1 k2 k3 k4
              have hpz0 := hpz.cell 0
              simp only [List.getElem?_toArray, List.getElem?_cons_zero] at hpz0
              have g0 := hrz.cell hjlt (q := 0) (by omega)
              have g1 := hrz.cell hjlt (q := 1) (by omega)
              have g2 := hrz.cell hjlt (q := 2) (by omega)
              have g3 := hrz.cell hjlt (q := 3) (by omega)
              have g4 := hrz.cell hjlt (q := 4) (by omega)
              have g5 := hrz.cell hjlt (q := 5) (by omega)
              simp only [left_yes hc, pcell, Nat.add_zero] at g0 g1 g2 g3 g4 g5
              have z0 := hset.cell 0
              have z1 := hset.cell 1
              have z2 := hset.cell 2
              have z3 := hset.cell 3
              have z4 := hset.cell 4
              simp at z0 z1 z2 z3 z4
              obtain ⟨wz, hwz⟩ : ∃ wz : World, wz = (((((wk.setCell ⟨wr.heap.size + 1, 0, none⟩ (.pointer none)).setCell ⟨wr.heap.size + 1, 1, none⟩ (.int .i64 0)).setCell ⟨wr.heap.size + 1, 2, none⟩ (.int .i64 0)).setCell ⟨wr.heap.size + 1, 3, none⟩ (.int .i64 0)).setCell ⟨wr.heap.size + 1, 4, none⟩ (.int .i64 0)) := ⟨_, rfl⟩
              rw [← hwz] at hbz g0 g1 g2 g3 g4 g5 z0 z1 z2 z3 z4 hpz0
              have HZ : Hid (wz = (((((wk.setCell ⟨wr.heap.size + 1, 0, none⟩ (.pointer none)).setCell ⟨wr.heap.size + 1, 1, none⟩ (.int .i64 0)).setCell ⟨wr.heap.size + 1, 2, none⟩ (.int .i64 0)).setCell ⟨wr.heap.size + 1, 3, none⟩ (.int .i64 0)).setCell ⟨wr.heap.size + 1, 4, none⟩ (.int .i64 0))) := hwz
              clear hwz hset hrz hpz hc hrow bw bp
              go_upto_region 53 with fail
              rw [← HZ.out]
              clear k0 k1 k2 k3 k4 kf kp0
              go_quiet (fail)
              go_wp2
              go_roundw
              case rel => exact ⟨j + 1, by omega, by go_num, below_drewN hbz _⟩
              case measure => simp [intOf]; omega
    · as_aux_lemma =>
        have : j = L s := by omega
        subst this
        go_wp2
        exact ⟨rfl, hexit _ _ _ _ _ _ _ _ _ _ _ _ _ _ _ _ _ _ _ _ _ _ _ _ _ _ _ _ _ _ _ _ _ _ _ _ _ _ _ _ _ _ _ _ _ _ _ _ _ _ _ _ _ _ _ _ _ _ _ _ _ _ _ _ _ _ _ _ _ _ _ _ _ _ _ hb⟩

end Go.Proofs.Ybulkomw
