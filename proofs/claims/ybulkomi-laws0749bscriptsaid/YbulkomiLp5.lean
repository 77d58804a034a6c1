/-
  The law's loop 5.
-/
import Derived.Test.YbulkomiLaw0
namespace Go.Proofs.Ybulkomi
open Go.RowKit

set_option maxHeartbeats 2000000 in
set_option maxRecDepth 100000 in
theorem lp5 {B bb : Nat} {A : Option Addr} {C : Nat} {X : List Nat} {v1 v2 v4 : Value} {ws : World} (hX : BRow B ws A X) (hl : X.length ≤ 256) (hb : Blk ws bb #[v1, v2, .slice none 0 0, v4] 48) (hB : B ≤ bb)
    {c0 c1 c2 c3 c4 c5 c6 c7 c8 c9 c10 c11 c13 c14 c15 c16 c17 c18 c19 c20 c21 c22 c23 c24 c25 c26 c27 c28 c29 c30 c31 c32 c33 c34 c35 c36 c37 c38 c39 c40 c41 c42 c43 c44 c45 c46 c47 c48 c49 c50 c51 c52 c53 c54 c55 c56 c57 c58 c59 c60 c61 c62 c63 c64 c65 c66 c67 c68 c69 c70 c71 c72 c73 c74 c75 c76 c77 c78 c79 c80 c81 c82 c83 c84 c85 c86 c87 c88 c89 c90 c91 c92 c93 c94 c95 c96 c97 c98 c99 c100 c101 c102 c103 c104 c105 c106 c107 c108 c109 c110 c111 c112 c113 c114 c115 c116 c120 c121 c122 c123 c124 c125 c126 c127 c128 c129 c130 c131 c132 c133 c134 c135 c136 c137 c138 c139 c140 c141 c142 c143 c144 c145 c146 c147 c148 c149 c150 c151 c152 c153 c154 c155 c156 c157 c158 c159 c160 c161 c162 c163 c164 c165 c166 c167 c168 c169 c170 c171 c172 c173 c174 c175 c176 c177 c178 c179 c180 c181 c182 c183 c184 c185 c186 c187 c188 c189 c190 c191 c192 c193 c194 c195 c196 c197 c198 c199 c200 c201 c202 c203 c204 c205 c206 c207 c208 c209 c210 c211 c212 c213 c214 c215 c216 c217 c218 c219 c220 c221 c222 c223 c224 c225 c226 c227 c228 c229 c230 c231 c232 c233 c234 c235 c236 c237 c238 c239 c240 c241 c242 c243 c244 c245 c246 c247 c248 c249 c250 c251 c252 c253 c254 c255 c256 c257 c258 c259 c260 c261 c262 c263 c264 c265 c266 c267 c268 c269 c270 c271 c272 c273 c274 c275 c276 c277 c278 c279 c280 c281 c282 c283 c284 c285 c286 c287 c288 c289 c290 c291 c292 c293 c294 c295 c296 c297 c298 c299 c300 c301 c302 c303 c304 c305 c306 c307 c308 c309 c310 c311 c312 c313 c314 c315 c316 c317 c318 c319 c320 c321 c322 c323 c324 c325 c326 c327 c328 c329 c330 c331 c332 c333 c334 c335 c336 c337 c338 c339 c340 c341 c342 c343 c344 c345 c346 c347 c348 c349 c350 c351 c352 c353 c354 c355 c356 c357 c358 c359 c360 c361 c362 c363 c364 c365 c366 c367 : Value} (E : Act → World → Prop)
    (hexit : ∀ (u18 u119 u120 u121 u122 u123 u124 u125 u126 u127 u128 u129 u130 u131 : Value) (wx : World), (∃ v, Blk wx bb #[v1, v2, v, v4] 48 ∧ wx.ownsRow ws.heap.size 60 8 v X.length (flatG avL X) ∧ Fr (fun k => k = bb) ws wx) → E ⟨List.toArray (c0 :: c1 :: c2 :: c3 :: c4 :: c5 :: c6 :: c7 :: c8 :: c9 :: c10 :: c11 :: (Value.pointer (some ⟨bb, 0, none⟩)) :: c13 :: c14 :: c15 :: c16 :: c17 :: u18 :: c19 :: c20 :: c21 :: c22 :: c23 :: c24 :: c25 :: c26 :: c27 :: c28 :: c29 :: c30 :: c31 :: c32 :: c33 :: c34 :: c35 :: c36 :: c37 :: c38 :: c39 :: c40 :: c41 :: c42 :: c43 :: c44 :: c45 :: c46 :: c47 :: c48 :: c49 :: c50 :: c51 :: c52 :: c53 :: c54 :: c55 :: c56 :: c57 :: c58 :: c59 :: c60 :: c61 :: c62 :: c63 :: c64 :: c65 :: c66 :: c67 :: c68 :: c69 :: c70 :: c71 :: c72 :: c73 :: c74 :: c75 :: c76 :: c77 :: c78 :: c79 :: c80 :: c81 :: c82 :: c83 :: c84 :: c85 :: c86 :: c87 :: c88 :: c89 :: c90 :: c91 :: c92 :: c93 :: c94 :: c95 :: c96 :: c97 :: c98 :: c99 :: c100 :: c101 :: c102 :: c103 :: c104 :: c105 :: c106 :: c107 :: c108 :: c109 :: c110 :: c111 :: c112 :: c113 :: c114 :: c115 :: c116 :: (Value.slice A X.length C) :: (Value.int .i64 X.length) :: u119 :: u120 :: u121 :: u122 :: u123 :: u124 :: u125 :: u126 :: u127 :: u128 :: u129 :: u130 :: u131 :: c132 :: c133 :: c134 :: c135 :: c136 :: c137 :: c138 :: c139 :: c140 :: c141 :: c142 :: c143 :: c144 :: c145 :: c146 :: c147 :: c148 :: c149 :: c150 :: c151 :: c152 :: c153 :: c154 :: c155 :: c156 :: c157 :: c158 :: c159 :: c160 :: c161 :: c162 :: c163 :: c164 :: c165 :: c166 :: c167 :: c168 :: c169 :: c170 :: c171 :: c172 :: c173 :: c174 :: c175 :: c176 :: c177 :: c178 :: c179 :: c180 :: c181 :: c182 :: c183 :: c184 :: c185 :: c186 :: c187 :: c188 :: c189 :: c190 :: c191 :: c192 :: c193 :: c194 :: c195 :: c196 :: c197 :: c198 :: c199 :: c200 :: c201 :: c202 :: c203 :: c204 :: c205 :: c206 :: c207 :: c208 :: c209 :: c210 :: c211 :: c212 :: c213 :: c214 :: c215 :: c216 :: c217 :: c218 :: c219 :: c220 :: c221 :: c222 :: c223 :: c224 :: c225 :: c226 :: c227 :: c228 :: c229 :: c230 :: c231 :: c232 :: c233 :: c234 :: c235 :: c236 :: c237 :: c238 :: c239 :: c240 :: c241 :: c242 :: c243 :: c244 :: c245 :: c246 :: c247 :: c248 :: c249 :: c250 :: c251 :: c252 :: c253 :: c254 :: c255 :: c256 :: c257 :: c258 :: c259 :: c260 :: c261 :: c262 :: c263 :: c264 :: c265 :: c266 :: c267 :: c268 :: c269 :: c270 :: c271 :: c272 :: c273 :: c274 :: c275 :: c276 :: c277 :: c278 :: c279 :: c280 :: c281 :: c282 :: c283 :: c284 :: c285 :: c286 :: c287 :: c288 :: c289 :: c290 :: c291 :: c292 :: c293 :: c294 :: c295 :: c296 :: c297 :: c298 :: c299 :: c300 :: c301 :: c302 :: c303 :: c304 :: c305 :: c306 :: c307 :: c308 :: c309 :: c310 :: c311 :: c312 :: c313 :: c314 :: c315 :: c316 :: c317 :: c318 :: c319 :: c320 :: c321 :: c322 :: c323 :: c324 :: c325 :: c326 :: c327 :: c328 :: c329 :: c330 :: c331 :: c332 :: c333 :: c334 :: c335 :: c336 :: c337 :: c338 :: c339 :: c340 :: c341 :: c342 :: c343 :: c344 :: c345 :: c346 :: c347 :: c348 :: c349 :: c350 :: c351 :: c352 :: c353 :: c354 :: c355 :: c356 :: c357 :: c358 :: c359 :: c360 :: c361 :: c362 :: c363 :: c364 :: c365 :: c366 :: c367 :: []), []⟩ wx) :
    Code.wp Yba.prog ((loopsOf (Yba.f4.body.getD .skip)).getD 4 .skip) (exitOnly 8 E) ⟨List.toArray (c0 :: c1 :: c2 :: c3 :: c4 :: c5 :: c6 :: c7 :: c8 :: c9 :: c10 :: c11 :: (Value.pointer (some ⟨bb, 0, none⟩)) :: c13 :: c14 :: c15 :: c16 :: c17 :: c18 :: c19 :: c20 :: c21 :: c22 :: c23 :: c24 :: c25 :: c26 :: c27 :: c28 :: c29 :: c30 :: c31 :: c32 :: c33 :: c34 :: c35 :: c36 :: c37 :: c38 :: c39 :: c40 :: c41 :: c42 :: c43 :: c44 :: c45 :: c46 :: c47 :: c48 :: c49 :: c50 :: c51 :: c52 :: c53 :: c54 :: c55 :: c56 :: c57 :: c58 :: c59 :: c60 :: c61 :: c62 :: c63 :: c64 :: c65 :: c66 :: c67 :: c68 :: c69 :: c70 :: c71 :: c72 :: c73 :: c74 :: c75 :: c76 :: c77 :: c78 :: c79 :: c80 :: c81 :: c82 :: c83 :: c84 :: c85 :: c86 :: c87 :: c88 :: c89 :: c90 :: c91 :: c92 :: c93 :: c94 :: c95 :: c96 :: c97 :: c98 :: c99 :: c100 :: c101 :: c102 :: c103 :: c104 :: c105 :: c106 :: c107 :: c108 :: c109 :: c110 :: c111 :: c112 :: c113 :: c114 :: c115 :: c116 :: (Value.slice A X.length C) :: (Value.int .i64 X.length) :: (Value.int .i64 0) :: c120 :: c121 :: c122 :: c123 :: c124 :: c125 :: c126 :: c127 :: c128 :: c129 :: c130 :: c131 :: c132 :: c133 :: c134 :: c135 :: c136 :: c137 :: c138 :: c139 :: c140 :: c141 :: c142 :: c143 :: c144 :: c145 :: c146 :: c147 :: c148 :: c149 :: c150 :: c151 :: c152 :: c153 :: c154 :: c155 :: c156 :: c157 :: c158 :: c159 :: c160 :: c161 :: c162 :: c163 :: c164 :: c165 :: c166 :: c167 :: c168 :: c169 :: c170 :: c171 :: c172 :: c173 :: c174 :: c175 :: c176 :: c177 :: c178 :: c179 :: c180 :: c181 :: c182 :: c183 :: c184 :: c185 :: c186 :: c187 :: c188 :: c189 :: c190 :: c191 :: c192 :: c193 :: c194 :: c195 :: c196 :: c197 :: c198 :: c199 :: c200 :: c201 :: c202 :: c203 :: c204 :: c205 :: c206 :: c207 :: c208 :: c209 :: c210 :: c211 :: c212 :: c213 :: c214 :: c215 :: c216 :: c217 :: c218 :: c219 :: c220 :: c221 :: c222 :: c223 :: c224 :: c225 :: c226 :: c227 :: c228 :: c229 :: c230 :: c231 :: c232 :: c233 :: c234 :: c235 :: c236 :: c237 :: c238 :: c239 :: c240 :: c241 :: c242 :: c243 :: c244 :: c245 :: c246 :: c247 :: c248 :: c249 :: c250 :: c251 :: c252 :: c253 :: c254 :: c255 :: c256 :: c257 :: c258 :: c259 :: c260 :: c261 :: c262 :: c263 :: c264 :: c265 :: c266 :: c267 :: c268 :: c269 :: c270 :: c271 :: c272 :: c273 :: c274 :: c275 :: c276 :: c277 :: c278 :: c279 :: c280 :: c281 :: c282 :: c283 :: c284 :: c285 :: c286 :: c287 :: c288 :: c289 :: c290 :: c291 :: c292 :: c293 :: c294 :: c295 :: c296 :: c297 :: c298 :: c299 :: c300 :: c301 :: c302 :: c303 :: c304 :: c305 :: c306 :: c307 :: c308 :: c309 :: c310 :: c311 :: c312 :: c313 :: c314 :: c315 :: c316 :: c317 :: c318 :: c319 :: c320 :: c321 :: c322 :: c323 :: c324 :: c325 :: c326 :: c327 :: c328 :: c329 :: c330 :: c331 :: c332 :: c333 :: c334 :: c335 :: c336 :: c337 :: c338 :: c339 :: c340 :: c341 :: c342 :: c343 :: c344 :: c345 :: c346 :: c347 :: c348 :: c349 :: c350 :: c351 :: c352 :: c353 :: c354 :: c355 :: c356 :: c357 :: c358 :: c359 :: c360 :: c361 :: c362 :: c363 :: c364 :: c365 :: c366 :: c367 :: []), []⟩ ws := by
  conv => arg 2; whnf
  go_loopw [119] (fun a wr => ∃ i : Nat, i ≤ X.length ∧ a = .int .i64 i ∧ ∃ v, Blk wr bb #[v1, v2, v, v4] 48 ∧ wr.ownsRow ws.heap.size 60 8 v i (flatG avL (X.take i)) ∧ Fr (fun k => k = bb) ws wr) (fun a _ => X.length - (intOf a).toNat)
  case atStart => exact ⟨0, Nat.zero_le _, rfl, _, hb, World.ownsRow_nil _ _ _ _, Fr.refl _ _⟩
  case round =>
    obtain ⟨i, hi, rfl, v, hb, hown, hf⟩ := hrel
    by_cases hlt : i < X.length
    · clear hexit
      obtain ⟨rb, ro, rfl, hrB, hrl, hc, hx⟩ := (hX.fr hf (fun k e => by rw [e]; exact hB)) i hlt
      have HC := fun w => battr_any X[i] w
      have hys : avL X[i] = [.string docS, .string (bidS (X[i] % 4 % 2)), .string (nmS (X[i] % 4)), .int .u8 0, .int .u64 0, .string ⟨#[]⟩, .slice none 0 0, .slice none 0 0] := rfl
      have htk : flatG avL (X.take (i + 1)) = flatG avL (X.take i) ++ avL X[i] := by rw [List.take_succ_eq_append_getElem hlt, flatG_app]
      rw [hys] at htk
      have hone := avL_one X[i]
      rw [hys] at hone
      have hnb := own_ne hown hb (by decide)
      obtain ⟨ao, cp, rfl, _⟩ := own_shape hown
      unfold atV atC at HC
      have b0 : ∀ o, (wr.alloc o).cell? ⟨bb, 2, none⟩ = some (.slice ao i cp) := fun o => ((hb.alloc o).cell 2).trans rfl
      have b1 : wr.cell? ⟨bb, 2, none⟩ = some (.slice ao i cp) := (hb.cell 2).trans rfl
      have b2 : ∀ o o', ((wr.alloc o).alloc o').cell? ⟨bb, 2, none⟩ = some (.slice ao i cp) := fun o o' => (((hb.alloc o).alloc o').cell 2).trans rfl
      generalize X[i] = x at *
      generalize x % 4 = k at *
      generalize hs1 : bidS (k % 2) = s1 at *
      generalize hs2 : nmS k = s2 at *
      go_wp2_with fail
      go_region_law (first
        | (refine step_append1 rfl (.tmp 124) (.tmp 128) 45 rfl Yba.underlying45 info60 rfl (by omega) (by simp [Act.eval]) ((hown.alloc _).alloc _).drew ?q1 (ad := ⟨wr.heap.size + 1, 0, none⟩) (c := 1) (by simp [Act.eval]) (ys := [.string docS, .string s1, .string s2, .int .u8 0, .int .u64 0, .string ⟨#[]⟩, .slice none 0 0, .slice none 0 0]) rfl ?q2 hone (by unfold maxLen; omega) (by omega) ?_
           case q1 => (have := hf.size; simp; omega)
           case q2 => (intro j u hu; exact cell_row (Blk.new _ _ 60 _ (by simp)) (by simpa using hu))
           intro g2 cap2 w4 hA
           have hb4 := hA.undrew.blk ((hb.alloc _).alloc _) hnb
           have hk0 : w4.cell? ⟨bb, 2, none⟩ = some (.slice ao i cp) := (hb4.cell 2).trans rfl
           have hk1 := hb4.frozen 2)
        | (go_simp; go_wp2_with (go_at_call 10; refine (HC _).mono ?_; rintro r w' ⟨rfl, rfl⟩)))
      all_goals go_wp2
      all_goals go_roundw
      all_goals first
        | exact ⟨i + 1, by omega, by go_num, _, (lp_step (cell := 2) hb (by decide) hf hown hA).1, by rw [htk]; exact (lp_step (cell := 2) hb (by decide) hf hown hA).2.1, (lp_step (cell := 2) hb (by decide) hf hown hA).2.2⟩
        | (simp [intOf]; omega)
    · have hii : i = X.length := by omega
      subst hii
      rw [List.take_length] at hown
      go_wp2
      exact ⟨rfl, hexit _ _ _ _ _ _ _ _ _ _ _ _ _ _ _ ⟨v, hb, hown, hf⟩⟩

end Go.Proofs.Ybulkomi
