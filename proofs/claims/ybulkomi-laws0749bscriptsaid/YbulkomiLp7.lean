/-
  The law's loop 7.
-/
import Derived.Test.YbulkomiLaw1
namespace Go.Proofs.Ybulkomi
open Go.RowKit

set_option maxHeartbeats 2000000 in
set_option maxRecDepth 100000 in
theorem lp7 {B pb lb : Nat} {A : Option Addr} {C : Nat} {X : List Nat} {m : Mdl} {v0 : Value} {ws : World} (hX : BRow B ws A X) (hl : X.length ≤ 256) (hb0 : Blk ws pb (presC m) 40) (hl0 : Blk ws lb (placC m) 41) (hg0 : ws.ownsRow B 3 1 v0 m.log.length (logV m)) (hB1 : B ≤ pb) (hB2 : B ≤ lb) (hn : m.log.length ≤ 50000) (hBs : B ≤ ws.heap.size)
    {c0 c1 c2 c3 c4 c5 c9 c10 c11 c12 c13 c14 c15 c16 c17 c18 c19 c20 c21 c22 c23 c24 c25 c26 c27 c28 c29 c30 c31 c32 c33 c34 c35 c36 c37 c38 c39 c40 c41 c42 c43 c44 c45 c46 c47 c48 c49 c50 c51 c52 c53 c54 c55 c56 c57 c58 c59 c60 c61 c62 c63 c64 c65 c66 c67 c68 c69 c70 c71 c72 c73 c74 c75 c76 c77 c78 c79 c80 c81 c82 c83 c84 c85 c86 c87 c88 c89 c90 c91 c92 c93 c94 c95 c96 c97 c98 c99 c100 c101 c102 c103 c104 c105 c106 c107 c108 c109 c110 c111 c112 c113 c114 c115 c116 c117 c118 c119 c120 c121 c122 c123 c124 c125 c126 c127 c128 c129 c130 c131 c132 c133 c134 c135 c136 c137 c138 c139 c140 c141 c142 c143 c144 c145 c146 c147 c148 c149 c150 c154 c155 c156 c157 c158 c159 c160 c161 c162 c163 c164 c165 c166 c167 c168 c169 c170 c171 c172 c173 c174 c175 c176 c177 c178 c179 c180 c181 c182 c183 c184 c185 c186 c187 c188 c189 c190 c191 c192 c193 c194 c195 c196 c197 c198 c199 c200 c201 c202 c203 c204 c205 c206 c207 c208 c209 c210 c211 c212 c213 c214 c215 c216 c217 c218 c219 c220 c221 c222 c223 c224 c225 c226 c227 c228 c229 c230 c231 c232 c233 c234 c235 c236 c237 c238 c239 c240 c241 c242 c243 c244 c245 c246 c247 c248 c249 c250 c251 c252 c253 c254 c255 c256 c257 c258 c259 c260 c261 c262 c263 c264 c265 c266 c267 c268 c269 c270 c271 c272 c273 c274 c275 c276 c277 c278 c279 c280 c281 c282 c283 c284 c285 c286 c287 c288 c289 c290 c291 c292 c293 c294 c295 c296 c297 c298 c299 c300 c301 c302 c303 c304 c305 c306 c307 c308 c309 c310 c311 c312 c313 c314 c315 c316 c317 c318 c319 c320 c321 c322 c323 c324 c325 c326 c327 c328 c329 c330 c331 c332 c333 c334 c335 c336 c337 c338 c339 c340 c341 c342 c343 c344 c345 c346 c347 c348 c349 c350 c351 c352 c353 c354 c355 c356 c357 c358 c359 c360 c361 c362 c363 c364 c365 c366 c367 : Value} (E : Act → World → Prop)
    (hexit : ∀ (u8 u22 u23 u153 u154 u155 u156 u157 u158 u159 u160 u161 u162 u163 u164 u165 u166 u167 u168 u169 u170 u171 u172 u173 u174 u175 : Value) (wx : World), (Blk wx pb (presC (mW m X)) 40 ∧ Blk wx lb (placC (mW m X)) 41 ∧ wx.ownsRow B 3 1 u8 (mW m X).log.length (logV (mW m X)) ∧ Fr (T7 B pb lb ws) ws wx) → E ⟨List.toArray (c0 :: c1 :: c2 :: c3 :: c4 :: c5 :: (Value.pointer (some ⟨pb, 0, none⟩)) :: (Value.pointer (some ⟨lb, 0, none⟩)) :: u8 :: c9 :: c10 :: c11 :: c12 :: c13 :: c14 :: c15 :: c16 :: c17 :: c18 :: c19 :: c20 :: c21 :: u22 :: u23 :: c24 :: c25 :: c26 :: c27 :: c28 :: c29 :: c30 :: c31 :: c32 :: c33 :: c34 :: c35 :: c36 :: c37 :: c38 :: c39 :: c40 :: c41 :: c42 :: c43 :: c44 :: c45 :: c46 :: c47 :: c48 :: c49 :: c50 :: c51 :: c52 :: c53 :: c54 :: c55 :: c56 :: c57 :: c58 :: c59 :: c60 :: c61 :: c62 :: c63 :: c64 :: c65 :: c66 :: c67 :: c68 :: c69 :: c70 :: c71 :: c72 :: c73 :: c74 :: c75 :: c76 :: c77 :: c78 :: c79 :: c80 :: c81 :: c82 :: c83 :: c84 :: c85 :: c86 :: c87 :: c88 :: c89 :: c90 :: c91 :: c92 :: c93 :: c94 :: c95 :: c96 :: c97 :: c98 :: c99 :: c100 :: c101 :: c102 :: c103 :: c104 :: c105 :: c106 :: c107 :: c108 :: c109 :: c110 :: c111 :: c112 :: c113 :: c114 :: c115 :: c116 :: c117 :: c118 :: c119 :: c120 :: c121 :: c122 :: c123 :: c124 :: c125 :: c126 :: c127 :: c128 :: c129 :: c130 :: c131 :: c132 :: c133 :: c134 :: c135 :: c136 :: c137 :: c138 :: c139 :: c140 :: c141 :: c142 :: c143 :: c144 :: c145 :: c146 :: c147 :: c148 :: c149 :: c150 :: (Value.slice A X.length C) :: (Value.int .i64 X.length) :: u153 :: u154 :: u155 :: u156 :: u157 :: u158 :: u159 :: u160 :: u161 :: u162 :: u163 :: u164 :: u165 :: u166 :: u167 :: u168 :: u169 :: u170 :: u171 :: u172 :: u173 :: u174 :: u175 :: c176 :: c177 :: c178 :: c179 :: c180 :: c181 :: c182 :: c183 :: c184 :: c185 :: c186 :: c187 :: c188 :: c189 :: c190 :: c191 :: c192 :: c193 :: c194 :: c195 :: c196 :: c197 :: c198 :: c199 :: c200 :: c201 :: c202 :: c203 :: c204 :: c205 :: c206 :: c207 :: c208 :: c209 :: c210 :: c211 :: c212 :: c213 :: c214 :: c215 :: c216 :: c217 :: c218 :: c219 :: c220 :: c221 :: c222 :: c223 :: c224 :: c225 :: c226 :: c227 :: c228 :: c229 :: c230 :: c231 :: c232 :: c233 :: c234 :: c235 :: c236 :: c237 :: c238 :: c239 :: c240 :: c241 :: c242 :: c243 :: c244 :: c245 :: c246 :: c247 :: c248 :: c249 :: c250 :: c251 :: c252 :: c253 :: c254 :: c255 :: c256 :: c257 :: c258 :: c259 :: c260 :: c261 :: c262 :: c263 :: c264 :: c265 :: c266 :: c267 :: c268 :: c269 :: c270 :: c271 :: c272 :: c273 :: c274 :: c275 :: c276 :: c277 :: c278 :: c279 :: c280 :: c281 :: c282 :: c283 :: c284 :: c285 :: c286 :: c287 :: c288 :: c289 :: c290 :: c291 :: c292 :: c293 :: c294 :: c295 :: c296 :: c297 :: c298 :: c299 :: c300 :: c301 :: c302 :: c303 :: c304 :: c305 :: c306 :: c307 :: c308 :: c309 :: c310 :: c311 :: c312 :: c313 :: c314 :: c315 :: c316 :: c317 :: c318 :: c319 :: c320 :: c321 :: c322 :: c323 :: c324 :: c325 :: c326 :: c327 :: c328 :: c329 :: c330 :: c331 :: c332 :: c333 :: c334 :: c335 :: c336 :: c337 :: c338 :: c339 :: c340 :: c341 :: c342 :: c343 :: c344 :: c345 :: c346 :: c347 :: c348 :: c349 :: c350 :: c351 :: c352 :: c353 :: c354 :: c355 :: c356 :: c357 :: c358 :: c359 :: c360 :: c361 :: c362 :: c363 :: c364 :: c365 :: c366 :: c367 :: []), []⟩ wx) :
    Code.wp Yba.prog ((loopsOf (Yba.f4.body.getD .skip)).getD 6 .skip) (exitOnly 12 E) ⟨List.toArray (c0 :: c1 :: c2 :: c3 :: c4 :: c5 :: (Value.pointer (some ⟨pb, 0, none⟩)) :: (Value.pointer (some ⟨lb, 0, none⟩)) :: v0 :: c9 :: c10 :: c11 :: c12 :: c13 :: c14 :: c15 :: c16 :: c17 :: c18 :: c19 :: c20 :: c21 :: c22 :: c23 :: c24 :: c25 :: c26 :: c27 :: c28 :: c29 :: c30 :: c31 :: c32 :: c33 :: c34 :: c35 :: c36 :: c37 :: c38 :: c39 :: c40 :: c41 :: c42 :: c43 :: c44 :: c45 :: c46 :: c47 :: c48 :: c49 :: c50 :: c51 :: c52 :: c53 :: c54 :: c55 :: c56 :: c57 :: c58 :: c59 :: c60 :: c61 :: c62 :: c63 :: c64 :: c65 :: c66 :: c67 :: c68 :: c69 :: c70 :: c71 :: c72 :: c73 :: c74 :: c75 :: c76 :: c77 :: c78 :: c79 :: c80 :: c81 :: c82 :: c83 :: c84 :: c85 :: c86 :: c87 :: c88 :: c89 :: c90 :: c91 :: c92 :: c93 :: c94 :: c95 :: c96 :: c97 :: c98 :: c99 :: c100 :: c101 :: c102 :: c103 :: c104 :: c105 :: c106 :: c107 :: c108 :: c109 :: c110 :: c111 :: c112 :: c113 :: c114 :: c115 :: c116 :: c117 :: c118 :: c119 :: c120 :: c121 :: c122 :: c123 :: c124 :: c125 :: c126 :: c127 :: c128 :: c129 :: c130 :: c131 :: c132 :: c133 :: c134 :: c135 :: c136 :: c137 :: c138 :: c139 :: c140 :: c141 :: c142 :: c143 :: c144 :: c145 :: c146 :: c147 :: c148 :: c149 :: c150 :: (Value.slice A X.length C) :: (Value.int .i64 X.length) :: (Value.int .i64 0) :: c154 :: c155 :: c156 :: c157 :: c158 :: c159 :: c160 :: c161 :: c162 :: c163 :: c164 :: c165 :: c166 :: c167 :: c168 :: c169 :: c170 :: c171 :: c172 :: c173 :: c174 :: c175 :: c176 :: c177 :: c178 :: c179 :: c180 :: c181 :: c182 :: c183 :: c184 :: c185 :: c186 :: c187 :: c188 :: c189 :: c190 :: c191 :: c192 :: c193 :: c194 :: c195 :: c196 :: c197 :: c198 :: c199 :: c200 :: c201 :: c202 :: c203 :: c204 :: c205 :: c206 :: c207 :: c208 :: c209 :: c210 :: c211 :: c212 :: c213 :: c214 :: c215 :: c216 :: c217 :: c218 :: c219 :: c220 :: c221 :: c222 :: c223 :: c224 :: c225 :: c226 :: c227 :: c228 :: c229 :: c230 :: c231 :: c232 :: c233 :: c234 :: c235 :: c236 :: c237 :: c238 :: c239 :: c240 :: c241 :: c242 :: c243 :: c244 :: c245 :: c246 :: c247 :: c248 :: c249 :: c250 :: c251 :: c252 :: c253 :: c254 :: c255 :: c256 :: c257 :: c258 :: c259 :: c260 :: c261 :: c262 :: c263 :: c264 :: c265 :: c266 :: c267 :: c268 :: c269 :: c270 :: c271 :: c272 :: c273 :: c274 :: c275 :: c276 :: c277 :: c278 :: c279 :: c280 :: c281 :: c282 :: c283 :: c284 :: c285 :: c286 :: c287 :: c288 :: c289 :: c290 :: c291 :: c292 :: c293 :: c294 :: c295 :: c296 :: c297 :: c298 :: c299 :: c300 :: c301 :: c302 :: c303 :: c304 :: c305 :: c306 :: c307 :: c308 :: c309 :: c310 :: c311 :: c312 :: c313 :: c314 :: c315 :: c316 :: c317 :: c318 :: c319 :: c320 :: c321 :: c322 :: c323 :: c324 :: c325 :: c326 :: c327 :: c328 :: c329 :: c330 :: c331 :: c332 :: c333 :: c334 :: c335 :: c336 :: c337 :: c338 :: c339 :: c340 :: c341 :: c342 :: c343 :: c344 :: c345 :: c346 :: c347 :: c348 :: c349 :: c350 :: c351 :: c352 :: c353 :: c354 :: c355 :: c356 :: c357 :: c358 :: c359 :: c360 :: c361 :: c362 :: c363 :: c364 :: c365 :: c366 :: c367 :: []), []⟩ ws := by
  conv => arg 2; whnf
  go_loopw [8, 153] (fun v a wr => ∃ i : Nat, i ≤ X.length ∧ a = .int .i64 i ∧ Blk wr pb (presC (mW m (X.take i))) 40 ∧ Blk wr lb (placC (mW m (X.take i))) 41 ∧ wr.ownsRow B 3 1 v (mW m (X.take i)).log.length (logV (mW m (X.take i))) ∧ Fr (T7 B pb lb ws) ws wr) (fun _ a _ => X.length - (intOf a).toNat)
  case atStart => exact ⟨0, Nat.zero_le _, rfl, hb0, hl0, hg0, Fr.refl _ _⟩
  case round =>
    clear hb0 hl0 hg0
    obtain ⟨i, hi, rfl, hb, hlb, hg, hf⟩ := hrel
    by_cases hlt : i < X.length
    · clear hexit
      obtain ⟨rb, ro, rfl, hrB, hrl, hc, hx⟩ := (hX.fr hf (T7_ge hB1 hB2)) i hlt
      have hst : mAdd (mW m (X.take i)) (X[i] % 16) = mW m (X.take (i + 1)) := (fold_take (fun m x => mAdd m (x % 16)) m X hlt).symm
      have hlen := mW_len (X.take i) m
      rw [List.length_take] at hlen
      have htm := tm16 X[i]
      have hk := mod16 X[i]
      generalize X[i] = x at *
      generalize x % 16 = k at *
      generalize mW m (X.take i) = M at *
      have b0 : wr.cell? ⟨pb, k, none⟩ = some (.bool (M.pr k)) := (hb.cell k).trans (arrC_at _ hk)
      have f0 := hb.frozen k
      cases hp : M.pr k
      · rw [hp] at b0
        have hnew : mAdd M k = mNew M k := by simp [mAdd, hp]
        rw [hnew] at hst
        have hne := blk_ne hb hlb (by decide)
        have hlb1 := hlb.setOther (a := ⟨pb, k, none⟩) (by exact hne) (.bool true)
        have b1 : (wr.setCell ⟨pb, k, none⟩ (.bool true)).cell? ⟨lb, k, none⟩ = some (.int .u64 (M.pl k : Nat)) := (hlb1.cell k).trans (arrC_at _ hk)
        have f1 := hlb1.frozen k
        obtain ⟨ao, cp, rfl, _⟩ := own_shape hg
        go_upto_region 46 with fail
        obtain ⟨w2, hw2⟩ : ∃ w2 : World, w2 = (wr.setCell ⟨pb, k, none⟩ (.bool true)).setCell ⟨lb, k, none⟩ (.int .u64 (M.log.length : Nat)) := ⟨_, rfl⟩
        have hb2 : Blk w2 pb (presC (mNew M k)) 40 := by rw [hw2, ← pres_new]; exact (hb.setSame k (.bool true)).setOther (by exact fun e => hne e.symm) _
        have hlb2 : Blk w2 lb (placC (mNew M k)) 41 := by rw [hw2, ← plac_new]; exact hlb1.setSame k _
        have hg2 : w2.ownsRow B 3 1 (.slice ao M.log.length cp) M.log.length (logV M) := by rw [hw2]; exact own_set (own_set hg (own_ne hg hb (by decide)) _) (own_ne hg hlb (by decide)) _
        have hf2 : Fr (T7 B pb lb ws) ws w2 := by rw [hw2]; exact (hf.setCell (Or.inr (Or.inl rfl)) _).setCell (Or.inr (Or.inr (Or.inl rfl))) _
        rw [← hw2]
        have hrow := T7_row hf2 hg2
        have hBs2 : B ≤ w2.heap.size := Nat.le_trans hBs hf2.size
        have hl2 : (mNew M k).log.length = M.log.length + 1 := by simp [mNew]
        have hl3 := log_new M k
        clear hw2 hb hlb hlb1 hg hf b0 f0 b1 f1 hX
        go_wp2_with (at_builtin; refine wpList_append1 _ rfl _ _ 42 rfl Yba.underlying42 info3 rfl (by omega) rfl (hg2.alloc _) ?c1 (ad := ⟨w2.heap.size, 0, none⟩) (c := 1) rfl (ys := [.int .i64 (k : Nat)]) rfl ?c2 ?c5 ?c3 ?c4 ?_)
        case c1 => simp; omega
        case c2 =>
          intro j u hu
          exact cell_row (Blk.new _ _ 3 _ rfl) (by simpa using hu)
        case c5 => intro u hu; simp at hu; subst hu; rfl
        case c3 => unfold maxLen; omega
        case c4 => omega
        intro g2 cap2 w4 hA
        have F : Blk w4 pb (presC (mNew M k)) 40 ∧ Blk w4 lb (placC (mNew M k)) 41 ∧ w4.ownsRow B 3 1 (.slice (some ⟨g2, 0, none⟩) (M.log.length + 1) cap2) (mNew M k).log.length (logV (mNew M k)) ∧ Fr (T7 B pb lb ws) ws w4 := by
          refine ⟨hA.blk (hb2.alloc _) (own_ne hg2 hb2 (by decide)), hA.blk (hlb2.alloc _) (own_ne hg2 hlb2 (by decide)), ?_, (hf2.alloc _).grown hA.grown hrow⟩
          rw [hl2, hl3]
          exact hA.own
        rw [hst] at F
        clear hA hg2 hb2 hlb2 hf2 hrow hl3 hl2 hst
        go_wp2
        go_roundw
        case rel => exact ⟨i + 1, by omega, by go_num, F⟩
        case measure => simp [intOf]; omega
      · rw [hp] at b0
        have hold : mAdd M k = M := by simp [mAdd, hp]
        rw [hold] at hst
        rw [hst] at hb hlb hg
        clear hst hX hold
        go_wp2
        go_roundw
        case rel => exact ⟨i + 1, by omega, by go_num, hb, hlb, hg, hf⟩
        case measure => simp [intOf]; omega
    · have hii : i = X.length := by omega
      subst hii
      rw [List.take_length] at hb hlb hg
      go_wp2
      exact ⟨rfl, hexit _ _ _ _ _ _ _ _ _ _ _ _ _ _ _ _ _ _ _ _ _ _ _ _ _ _ _ ⟨hb, hlb, hg, hf⟩⟩

end Go.Proofs.Ybulkomi
