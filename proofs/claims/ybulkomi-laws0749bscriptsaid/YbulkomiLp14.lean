/-
  The law's loop 14.
-/
import Derived.Test.YbulkomiLaw1
namespace Go.Proofs.Ybulkomi
open Go.RowKit

set_option maxHeartbeats 2000000 in
set_option maxRecDepth 100000 in
theorem lp14 {B pb lb q : Nat} {m : Mdl} {ao : Option Addr} {cp : Nat} {ws : World} (hb : Blk ws pb (presC m) 40) (hlb : Blk ws lb (placC m) 41) (hg : ws.ownsRow B 3 1 (.slice ao m.log.length cp) m.log.length (logV m)) (hinv : Inv m) (hn : m.log.length ≤ 50000)
    {c0 c1 c2 c3 c4 c5 c8 c9 c10 c11 c12 c13 c14 c15 c16 c17 c18 c19 c20 c21 c22 c23 c24 c25 c26 c27 c28 c29 c30 c31 c32 c33 c34 c35 c39 c40 c41 c42 c43 c44 c45 c46 c47 c48 c49 c50 c51 c52 c53 c54 c55 c56 c57 c58 c59 c60 c61 c62 c63 c64 c65 c66 c67 c68 c69 c70 c71 c72 c73 c74 c75 c76 c77 c78 c79 c80 c81 c82 c83 c84 c85 c86 c87 c88 c89 c90 c91 c92 c93 c94 c95 c96 c97 c98 c99 c100 c101 c102 c103 c104 c105 c106 c107 c108 c109 c110 c111 c112 c113 c114 c115 c116 c117 c118 c119 c120 c121 c122 c123 c124 c125 c126 c127 c128 c129 c130 c131 c132 c133 c134 c135 c136 c137 c138 c139 c140 c141 c142 c143 c144 c145 c146 c147 c148 c149 c150 c151 c152 c153 c154 c155 c156 c157 c158 c159 c160 c161 c162 c163 c164 c165 c166 c167 c168 c169 c170 c171 c172 c173 c174 c175 c176 c177 c178 c179 c180 c181 c182 c183 c184 c185 c186 c187 c188 c189 c190 c191 c192 c193 c194 c195 c196 c197 c198 c199 c200 c201 c202 c203 c204 c205 c206 c207 c208 c209 c210 c211 c212 c213 c214 c215 c216 c217 c218 c219 c220 c221 c222 c223 c224 c225 c226 c227 c228 c229 c230 c231 c232 c233 c234 c235 c236 c237 c238 c239 c240 c241 c242 c243 c244 c245 c246 c247 c248 c249 c250 c251 c252 c253 c254 c255 c256 c257 c258 c259 c260 c261 c262 c263 c264 c265 c266 c267 c268 c269 c270 c271 c272 c273 c274 c275 c276 c277 c278 c279 c280 c281 c285 c286 c287 c288 c289 c290 c291 c292 c293 c294 c295 c296 c297 c298 c299 c300 c301 c302 c303 c304 c305 c306 c307 c308 c309 c310 c311 c312 c313 c314 c315 c316 c317 c318 c319 c320 c321 c322 c323 c324 c325 c326 c327 c328 c329 c330 c331 c332 c333 c334 c335 c336 c337 c338 c339 c340 c341 c342 c343 c344 c345 c346 c347 c348 c349 c350 c351 c352 c353 c354 c355 c356 c357 c358 c359 c360 c361 c362 c363 c364 c365 c366 c367 : Value} (E : Act → World → Prop)
    (hexit : ∀ (u37 u38 u39 u40 u41 u284 u285 u286 u287 u288 u289 u290 u291 u292 u293 u294 u295 u296 u297 u298 u299 u300 u301 u302 u303 u304 u305 u306 u307 u308 u309 u310 u311 u312 u313 u314 u315 u316 u317 u318 u319 u320 u321 u322 u323 u324 u325 u326 u327 u328 u329 u330 : Value) (wx : World), (wx.ownsRow ws.heap.size 76 3 u37 (expL m q false m.log.length).length (flat (expL m q false m.log.length)) ∧ wx.ownsRow ws.heap.size 78 4 u38 (expL m q true m.log.length).length (Sj.flat (expL m q true m.log.length)) ∧ Fr (fun _ => False) ws wx) → E ⟨List.toArray (c0 :: c1 :: c2 :: c3 :: c4 :: c5 :: (Value.pointer (some ⟨pb, 0, none⟩)) :: (Value.pointer (some ⟨lb, 0, none⟩)) :: c8 :: c9 :: c10 :: c11 :: c12 :: c13 :: c14 :: c15 :: c16 :: c17 :: c18 :: c19 :: c20 :: c21 :: c22 :: c23 :: c24 :: c25 :: c26 :: c27 :: c28 :: c29 :: c30 :: c31 :: c32 :: c33 :: c34 :: c35 :: (Value.int .i64 q) :: u37 :: u38 :: u39 :: u40 :: u41 :: c42 :: c43 :: c44 :: c45 :: c46 :: c47 :: c48 :: c49 :: c50 :: c51 :: c52 :: c53 :: c54 :: c55 :: c56 :: c57 :: c58 :: c59 :: c60 :: c61 :: c62 :: c63 :: c64 :: c65 :: c66 :: c67 :: c68 :: c69 :: c70 :: c71 :: c72 :: c73 :: c74 :: c75 :: c76 :: c77 :: c78 :: c79 :: c80 :: c81 :: c82 :: c83 :: c84 :: c85 :: c86 :: c87 :: c88 :: c89 :: c90 :: c91 :: c92 :: c93 :: c94 :: c95 :: c96 :: c97 :: c98 :: c99 :: c100 :: c101 :: c102 :: c103 :: c104 :: c105 :: c106 :: c107 :: c108 :: c109 :: c110 :: c111 :: c112 :: c113 :: c114 :: c115 :: c116 :: c117 :: c118 :: c119 :: c120 :: c121 :: c122 :: c123 :: c124 :: c125 :: c126 :: c127 :: c128 :: c129 :: c130 :: c131 :: c132 :: c133 :: c134 :: c135 :: c136 :: c137 :: c138 :: c139 :: c140 :: c141 :: c142 :: c143 :: c144 :: c145 :: c146 :: c147 :: c148 :: c149 :: c150 :: c151 :: c152 :: c153 :: c154 :: c155 :: c156 :: c157 :: c158 :: c159 :: c160 :: c161 :: c162 :: c163 :: c164 :: c165 :: c166 :: c167 :: c168 :: c169 :: c170 :: c171 :: c172 :: c173 :: c174 :: c175 :: c176 :: c177 :: c178 :: c179 :: c180 :: c181 :: c182 :: c183 :: c184 :: c185 :: c186 :: c187 :: c188 :: c189 :: c190 :: c191 :: c192 :: c193 :: c194 :: c195 :: c196 :: c197 :: c198 :: c199 :: c200 :: c201 :: c202 :: c203 :: c204 :: c205 :: c206 :: c207 :: c208 :: c209 :: c210 :: c211 :: c212 :: c213 :: c214 :: c215 :: c216 :: c217 :: c218 :: c219 :: c220 :: c221 :: c222 :: c223 :: c224 :: c225 :: c226 :: c227 :: c228 :: c229 :: c230 :: c231 :: c232 :: c233 :: c234 :: c235 :: c236 :: c237 :: c238 :: c239 :: c240 :: c241 :: c242 :: c243 :: c244 :: c245 :: c246 :: c247 :: c248 :: c249 :: c250 :: c251 :: c252 :: c253 :: c254 :: c255 :: c256 :: c257 :: c258 :: c259 :: c260 :: c261 :: c262 :: c263 :: c264 :: c265 :: c266 :: c267 :: c268 :: c269 :: c270 :: c271 :: c272 :: c273 :: c274 :: c275 :: c276 :: c277 :: c278 :: c279 :: c280 :: c281 :: (Value.slice ao m.log.length cp) :: (Value.int .i64 m.log.length) :: u284 :: u285 :: u286 :: u287 :: u288 :: u289 :: u290 :: u291 :: u292 :: u293 :: u294 :: u295 :: u296 :: u297 :: u298 :: u299 :: u300 :: u301 :: u302 :: u303 :: u304 :: u305 :: u306 :: u307 :: u308 :: u309 :: u310 :: u311 :: u312 :: u313 :: u314 :: u315 :: u316 :: u317 :: u318 :: u319 :: u320 :: u321 :: u322 :: u323 :: u324 :: u325 :: u326 :: u327 :: u328 :: u329 :: u330 :: c331 :: c332 :: c333 :: c334 :: c335 :: c336 :: c337 :: c338 :: c339 :: c340 :: c341 :: c342 :: c343 :: c344 :: c345 :: c346 :: c347 :: c348 :: c349 :: c350 :: c351 :: c352 :: c353 :: c354 :: c355 :: c356 :: c357 :: c358 :: c359 :: c360 :: c361 :: c362 :: c363 :: c364 :: c365 :: c366 :: c367 :: []), []⟩ wx) :
    Code.wp Yba.prog ((loopsOf (Yba.f4.body.getD .skip)).getD 13 .skip) (exitOnly 26 E) ⟨List.toArray (c0 :: c1 :: c2 :: c3 :: c4 :: c5 :: (Value.pointer (some ⟨pb, 0, none⟩)) :: (Value.pointer (some ⟨lb, 0, none⟩)) :: c8 :: c9 :: c10 :: c11 :: c12 :: c13 :: c14 :: c15 :: c16 :: c17 :: c18 :: c19 :: c20 :: c21 :: c22 :: c23 :: c24 :: c25 :: c26 :: c27 :: c28 :: c29 :: c30 :: c31 :: c32 :: c33 :: c34 :: c35 :: (Value.int .i64 q) :: (Value.slice none 0 0) :: (Value.slice none 0 0) :: c39 :: c40 :: c41 :: c42 :: c43 :: c44 :: c45 :: c46 :: c47 :: c48 :: c49 :: c50 :: c51 :: c52 :: c53 :: c54 :: c55 :: c56 :: c57 :: c58 :: c59 :: c60 :: c61 :: c62 :: c63 :: c64 :: c65 :: c66 :: c67 :: c68 :: c69 :: c70 :: c71 :: c72 :: c73 :: c74 :: c75 :: c76 :: c77 :: c78 :: c79 :: c80 :: c81 :: c82 :: c83 :: c84 :: c85 :: c86 :: c87 :: c88 :: c89 :: c90 :: c91 :: c92 :: c93 :: c94 :: c95 :: c96 :: c97 :: c98 :: c99 :: c100 :: c101 :: c102 :: c103 :: c104 :: c105 :: c106 :: c107 :: c108 :: c109 :: c110 :: c111 :: c112 :: c113 :: c114 :: c115 :: c116 :: c117 :: c118 :: c119 :: c120 :: c121 :: c122 :: c123 :: c124 :: c125 :: c126 :: c127 :: c128 :: c129 :: c130 :: c131 :: c132 :: c133 :: c134 :: c135 :: c136 :: c137 :: c138 :: c139 :: c140 :: c141 :: c142 :: c143 :: c144 :: c145 :: c146 :: c147 :: c148 :: c149 :: c150 :: c151 :: c152 :: c153 :: c154 :: c155 :: c156 :: c157 :: c158 :: c159 :: c160 :: c161 :: c162 :: c163 :: c164 :: c165 :: c166 :: c167 :: c168 :: c169 :: c170 :: c171 :: c172 :: c173 :: c174 :: c175 :: c176 :: c177 :: c178 :: c179 :: c180 :: c181 :: c182 :: c183 :: c184 :: c185 :: c186 :: c187 :: c188 :: c189 :: c190 :: c191 :: c192 :: c193 :: c194 :: c195 :: c196 :: c197 :: c198 :: c199 :: c200 :: c201 :: c202 :: c203 :: c204 :: c205 :: c206 :: c207 :: c208 :: c209 :: c210 :: c211 :: c212 :: c213 :: c214 :: c215 :: c216 :: c217 :: c218 :: c219 :: c220 :: c221 :: c222 :: c223 :: c224 :: c225 :: c226 :: c227 :: c228 :: c229 :: c230 :: c231 :: c232 :: c233 :: c234 :: c235 :: c236 :: c237 :: c238 :: c239 :: c240 :: c241 :: c242 :: c243 :: c244 :: c245 :: c246 :: c247 :: c248 :: c249 :: c250 :: c251 :: c252 :: c253 :: c254 :: c255 :: c256 :: c257 :: c258 :: c259 :: c260 :: c261 :: c262 :: c263 :: c264 :: c265 :: c266 :: c267 :: c268 :: c269 :: c270 :: c271 :: c272 :: c273 :: c274 :: c275 :: c276 :: c277 :: c278 :: c279 :: c280 :: c281 :: (Value.slice ao m.log.length cp) :: (Value.int .i64 m.log.length) :: (Value.int .i64 0) :: c285 :: c286 :: c287 :: c288 :: c289 :: c290 :: c291 :: c292 :: c293 :: c294 :: c295 :: c296 :: c297 :: c298 :: c299 :: c300 :: c301 :: c302 :: c303 :: c304 :: c305 :: c306 :: c307 :: c308 :: c309 :: c310 :: c311 :: c312 :: c313 :: c314 :: c315 :: c316 :: c317 :: c318 :: c319 :: c320 :: c321 :: c322 :: c323 :: c324 :: c325 :: c326 :: c327 :: c328 :: c329 :: c330 :: c331 :: c332 :: c333 :: c334 :: c335 :: c336 :: c337 :: c338 :: c339 :: c340 :: c341 :: c342 :: c343 :: c344 :: c345 :: c346 :: c347 :: c348 :: c349 :: c350 :: c351 :: c352 :: c353 :: c354 :: c355 :: c356 :: c357 :: c358 :: c359 :: c360 :: c361 :: c362 :: c363 :: c364 :: c365 :: c366 :: c367 :: []), []⟩ ws := by
  conv => arg 2; whnf
  go_loopw [37, 38, 284] (fun v1 v2 a wr => ∃ j : Nat, j ≤ m.log.length ∧ a = .int .i64 j ∧ wr.ownsRow ws.heap.size 76 3 v1 (expL m q false j).length (flat (expL m q false j)) ∧ wr.ownsRow ws.heap.size 78 4 v2 (expL m q true j).length (Sj.flat (expL m q true j)) ∧ Fr (fun _ => False) ws wr) (fun _ _ a _ => m.log.length - (intOf a).toNat)
  case atStart => exact ⟨0, Nat.zero_le _, rfl, World.ownsRow_nil _ _ _ _, World.ownsRow_nil _ _ _ _, Fr.refl _ _⟩
  case round =>
    obtain ⟨j, hj, rfl, h1, h2, hf⟩ := hrel
    by_cases hlt : j < m.log.length
    · clear hexit
      obtain ⟨gl, rfl, hc⟩ := log_at (hf.own hg (fun _ _ s => s)) hlt
      have hk : lg m j < 16 := hinv.lt _ (by simp [lg, hlt])
      have e1 := expL_succ m q false j
      have e2 := expL_succ m q true j
      have b0 : wr.cell? ⟨pb, lg m j, none⟩ = some (.bool (m.pr (lg m j))) := ((hf.blk hb (fun s => s)).cell _).trans (arrC_at _ hk)
      have b1 : wr.cell? ⟨lb, lg m j, none⟩ = some (.int .u64 (m.pl (lg m j) : Nat)) := ((hf.blk hlb (fun s => s)).cell _).trans (arrC_at _ hk)
      have hck : ∀ b, ck m q b j = (m.pr (lg m j) && decide (m.pl (lg m j) = j) && decide (lg m j % 4 = q) && (decide (8 ≤ lg m j) == b)) := fun b => rfl
      rw [hck] at e1 e2
      have hl1 : (expL m q false j).length ≤ j := by
        have := List.length_filter_le (ck m q false) (List.range j)
        simpa [expL] using this
      have hl2 : (expL m q true j).length ≤ j := by
        have := List.length_filter_le (ck m q true) (List.range j)
        simpa [expL] using this
      generalize lg m j = k at *
      have a3 := and3 hk
      have a8 := and8 hk
      generalize expL m q false j = X1 at *
      generalize expL m q true j = X2 at *
      clear hb hlb hg hck
      cases hp : m.pr k
      · rw [hp] at b0 e1 e2
        have x1 : expL m q false (j + 1) = X1 := by rw [e1]; simp
        have x2 : expL m q true (j + 1) = X2 := by rw [e2]; simp
        clear e1 e2 hinv
        go_wp2
        go_roundw
        case rel => exact ⟨j + 1, by omega, by go_num, by rw [x1]; exact h1, by rw [x2]; exact h2, hf⟩
        case measure => simp [intOf]; omega
      · rw [hp] at b0 e1 e2
        by_cases hpl : m.pl k = j
        · rw [hpl] at b1 e1 e2
          by_cases h4 : k % 4 = q
          · rw [h4] at a3
            by_cases h8 : 8 ≤ k
            · rw [if_pos h8] at a8
              have x1 : expL m q false (j + 1) = X1 := by rw [e1]; simp [h4, h8]
              have x2 : expL m q true (j + 1) = X2 ++ [(j, some k)] := by rw [e2]; simp [h4, h8]
              have hmS : mS k = ⟨#[109]⟩ := by simp [mS, show k / 8 % 2 = 1 by omega]
              have HC := fun w => brel_any k w
              rw [Nat.mod_eq_of_lt hk] at HC
              unfold relV relC at HC
              rw [hmS] at HC
              have hys : Sj.slC (j, some k) = [.int .u64 (j : Nat), .string userS, .string (bidS (k / 4 % 2)), .string ⟨#[109]⟩] := rfl
              have hone := Sj.slC_one (j, some k)
              rw [hys] at hone
              obtain ⟨aw, cw, rfl, _⟩ := own_shape h2
              generalize bidS (k % 2) = s1 at *
              generalize rnS (k / 2 % 2) = s2 at *
              generalize bidS (k / 4 % 2) = s4 at *
              clear e1 e2 hinv hp
              go_wp2_with (first | (go_at_call 9; refine (HC _).mono ?_; rintro r w' ⟨rfl, rfl⟩) | (at_builtin; refine wpList_append1 _ rfl _ _ 74 rfl Yba.underlying74 Sj.info78 rfl (by omega) rfl (((h2.alloc _).alloc _).alloc _) ?c1 (ad := ⟨wr.heap.size + 1 + 1, 0, none⟩) (c := 1) rfl (ys := [.int .u64 (j : Nat), .string userS, .string s4, .string ⟨#[109]⟩]) rfl ?c2 hone ?c3 ?c4 ?_))
              case c1 => (have := hf.size; simp; omega)
              case c2 =>
                intro j u hu
                exact cell_row (Blk.new _ _ 78 _ (by simp)) (by simpa using hu)
              case c3 => unfold maxLen; omega
              case c4 => omega
              intro g2 cap2 w4 hA
              have hf4 := app_fr0 (((hf.alloc _).alloc _).alloc _) hA (((h2.alloc _).alloc _).alloc _)
              have h14 := app_other hA (((h2.alloc _).alloc _).alloc _) (((h1.alloc _).alloc _).alloc _) (by decide)
              have h24 := hA.own
              clear hA h1 h2 hf HC
              go_wp2
              go_roundw
              case rel =>
                refine ⟨j + 1, by omega, by go_num, by rw [x1]; exact h14, ?_, hf4⟩
                rw [x2, Sj.flat_append, List.length_append]
                simpa [Sj.flat, hys] using h24
              case measure => simp [intOf]; omega
            · rw [if_neg h8] at a8
              have x1 : expL m q false (j + 1) = X1 ++ [(j, some k)] := by rw [e1]; simp [h4, h8]
              have x2 : expL m q true (j + 1) = X2 := by rw [e2]; simp [h4, h8]
              have HC := fun w => brel_any k w
              rw [Nat.mod_eq_of_lt hk] at HC
              unfold relV relC at HC
              have hys : slC (j, some k) = [.int .u64 (j : Nat), .string userS, .string (bidS (k / 4 % 2))] := rfl
              have hone := slC_one (j, some k)
              rw [hys] at hone
              obtain ⟨aw, cw, rfl, _⟩ := own_shape h1
              generalize bidS (k % 2) = s1 at *
              generalize rnS (k / 2 % 2) = s2 at *
              generalize bidS (k / 4 % 2) = s4 at *
              generalize mS k = s5 at *
              clear e1 e2 hinv hp
              go_wp2_with (first | (go_at_call 9; refine (HC _).mono ?_; rintro r w' ⟨rfl, rfl⟩) | (at_builtin; refine wpList_append1 _ rfl _ _ 73 rfl Yba.underlying73 info76 rfl (by omega) rfl (((h1.alloc _).alloc _).alloc _) ?c1 (ad := ⟨wr.heap.size + 1 + 1, 0, none⟩) (c := 1) rfl (ys := [.int .u64 (j : Nat), .string userS, .string s4]) rfl ?c2 hone ?c3 ?c4 ?_))
              case c1 => (have := hf.size; simp; omega)
              case c2 =>
                intro j u hu
                exact cell_row (Blk.new _ _ 76 _ (by simp)) (by simpa using hu)
              case c3 => unfold maxLen; omega
              case c4 => omega
              intro g2 cap2 w4 hA
              have hf4 := app_fr0 (((hf.alloc _).alloc _).alloc _) hA (((h1.alloc _).alloc _).alloc _)
              have h24 := app_other hA (((h1.alloc _).alloc _).alloc _) (((h2.alloc _).alloc _).alloc _) (by decide)
              have h14 := hA.own
              clear hA h1 h2 hf HC
              go_wp2
              go_roundw
              case rel =>
                refine ⟨j + 1, by omega, by go_num, ?_, by rw [x2]; exact h24, hf4⟩
                rw [x1, flat_append, List.length_append]
                simpa [flat, hys] using h14
              case measure => simp [intOf]; omega
          · have x1 : expL m q false (j + 1) = X1 := by rw [e1]; simp [h4]
            have x2 : expL m q true (j + 1) = X2 := by rw [e2]; simp [h4]
            have hne : ¬ ((k % 4 : Nat) : Int) = (q : Int) := by omega
            clear e1 e2 hinv
            go_wp2
            go_roundw
            case rel => exact ⟨j + 1, by omega, by go_num, by rw [x1]; exact h1, by rw [x2]; exact h2, hf⟩
            case measure => simp [intOf]; omega
        · have x1 : expL m q false (j + 1) = X1 := by rw [e1]; simp [hpl]
          have x2 : expL m q true (j + 1) = X2 := by rw [e2]; simp [hpl]
          have hne : ¬ ((m.pl k : Nat) : Int) = (j : Int) := by omega
          clear e1 e2 hinv
          go_wp2
          go_roundw
          case rel => exact ⟨j + 1, by omega, by go_num, by rw [x1]; exact h1, by rw [x2]; exact h2, hf⟩
          case measure => simp [intOf]; omega
    · have hjj : j = m.log.length := by omega
      subst hjj
      go_wp2
      exact ⟨rfl, hexit _ _ _ _ _ _ _ _ _ _ _ _ _ _ _ _ _ _ _ _ _ _ _ _ _ _ _ _ _ _ _ _ _ _ _ _ _ _ _ _ _ _ _ _ _ _ _ _ _ _ _ _ _ ⟨h1, h2, hf⟩⟩

end Go.Proofs.Ybulkomi
