/-
  The law's loop 12.
-/
import Derived.Test.YbulkomiLaw1
namespace Go.Proofs.Ybulkomi
open Go.RowKit

set_option maxHeartbeats 4000000 in
set_option maxRecDepth 100000 in
theorem lp12 {c : Cfg} {tb : Nat} {m : Mdl} {ws : World} (hs : SR c ws m) (hb : Blk ws tb (attC m) 43)
    {c0 c1 c2 c3 c4 c6 c7 c8 c10 c11 c12 c13 c14 c15 c16 c17 c18 c19 c20 c21 c22 c23 c24 c25 c26 c27 c28 c29 c30 c31 c34 c35 c36 c37 c38 c39 c40 c41 c42 c43 c44 c45 c46 c47 c48 c49 c50 c51 c52 c53 c54 c55 c56 c57 c58 c59 c60 c61 c62 c63 c64 c65 c66 c67 c68 c69 c70 c71 c72 c73 c74 c75 c76 c77 c78 c79 c80 c81 c82 c83 c84 c85 c86 c87 c88 c89 c90 c91 c92 c93 c94 c95 c96 c97 c98 c99 c100 c101 c102 c103 c104 c105 c106 c107 c108 c109 c110 c111 c112 c113 c114 c115 c116 c117 c118 c119 c120 c121 c122 c123 c124 c125 c126 c127 c128 c129 c130 c131 c132 c133 c134 c135 c136 c137 c138 c139 c140 c141 c142 c143 c144 c145 c146 c147 c148 c149 c150 c151 c152 c153 c154 c155 c156 c157 c158 c159 c160 c161 c162 c163 c164 c165 c166 c167 c168 c169 c170 c171 c172 c173 c174 c175 c176 c177 c178 c179 c180 c181 c182 c183 c184 c185 c186 c187 c188 c189 c190 c191 c192 c193 c194 c195 c196 c197 c198 c199 c200 c201 c202 c203 c204 c205 c206 c207 c208 c209 c210 c211 c212 c213 c214 c215 c216 c217 c218 c219 c220 c221 c222 c223 c224 c225 c226 c227 c228 c229 c230 c231 c232 c233 c234 c235 c236 c237 c238 c239 c240 c241 c242 c243 c244 c245 c246 c247 c248 c249 c250 c251 c252 c253 c254 c255 c256 c257 c258 c259 c260 c261 c262 c263 c264 c265 c266 c267 c268 c269 c270 c271 c272 c273 c274 c275 c276 c277 c278 c279 c280 c281 c282 c283 c284 c285 c286 c287 c288 c289 c290 c291 c292 c293 c294 c295 c296 c297 c298 c299 c300 c301 c302 c303 c304 c305 c306 c307 c308 c309 c310 c311 c312 c313 c314 c315 c316 c317 c318 c319 c320 c321 c322 c323 c324 c325 c326 c327 c328 c329 c330 c331 c332 c333 c334 c335 c336 c337 c338 c339 c340 c341 c342 c343 c344 c345 c346 c347 c348 c349 c350 c351 c352 c353 c354 c355 c356 c357 c358 c359 c360 c361 c362 c363 c364 c365 c366 c367 : Value} (E : Act → World → Prop)
    (hexit : ∀ (u2 u33 u34 u35 u249 u250 u251 u252 u253 u254 u255 u256 u257 u258 u259 u260 u261 u262 u263 u264 u265 u266 u267 u268 u269 u270 u271 u272 u273 : Value) (wx : World), (Fr (fun _ => False) ws wx) → E ⟨List.toArray (c0 :: c1 :: u2 :: c3 :: c4 :: (Value.pointer (some ⟨c.sb, 0, none⟩)) :: c6 :: c7 :: c8 :: (Value.pointer (some ⟨tb, 0, none⟩)) :: c10 :: c11 :: c12 :: c13 :: c14 :: c15 :: c16 :: c17 :: c18 :: c19 :: c20 :: c21 :: c22 :: c23 :: c24 :: c25 :: c26 :: c27 :: c28 :: c29 :: c30 :: c31 :: (Value.int .i64 (cntA m 4 : Nat)) :: u33 :: u34 :: u35 :: c36 :: c37 :: c38 :: c39 :: c40 :: c41 :: c42 :: c43 :: c44 :: c45 :: c46 :: c47 :: c48 :: c49 :: c50 :: c51 :: c52 :: c53 :: c54 :: c55 :: c56 :: c57 :: c58 :: c59 :: c60 :: c61 :: c62 :: c63 :: c64 :: c65 :: c66 :: c67 :: c68 :: c69 :: c70 :: c71 :: c72 :: c73 :: c74 :: c75 :: c76 :: c77 :: c78 :: c79 :: c80 :: c81 :: c82 :: c83 :: c84 :: c85 :: c86 :: c87 :: c88 :: c89 :: c90 :: c91 :: c92 :: c93 :: c94 :: c95 :: c96 :: c97 :: c98 :: c99 :: c100 :: c101 :: c102 :: c103 :: c104 :: c105 :: c106 :: c107 :: c108 :: c109 :: c110 :: c111 :: c112 :: c113 :: c114 :: c115 :: c116 :: c117 :: c118 :: c119 :: c120 :: c121 :: c122 :: c123 :: c124 :: c125 :: c126 :: c127 :: c128 :: c129 :: c130 :: c131 :: c132 :: c133 :: c134 :: c135 :: c136 :: c137 :: c138 :: c139 :: c140 :: c141 :: c142 :: c143 :: c144 :: c145 :: c146 :: c147 :: c148 :: c149 :: c150 :: c151 :: c152 :: c153 :: c154 :: c155 :: c156 :: c157 :: c158 :: c159 :: c160 :: c161 :: c162 :: c163 :: c164 :: c165 :: c166 :: c167 :: c168 :: c169 :: c170 :: c171 :: c172 :: c173 :: c174 :: c175 :: c176 :: c177 :: c178 :: c179 :: c180 :: c181 :: c182 :: c183 :: c184 :: c185 :: c186 :: c187 :: c188 :: c189 :: c190 :: c191 :: c192 :: c193 :: c194 :: c195 :: c196 :: c197 :: c198 :: c199 :: c200 :: c201 :: c202 :: c203 :: c204 :: c205 :: c206 :: c207 :: c208 :: c209 :: c210 :: c211 :: c212 :: c213 :: c214 :: c215 :: c216 :: c217 :: c218 :: c219 :: c220 :: c221 :: c222 :: c223 :: c224 :: c225 :: c226 :: c227 :: c228 :: c229 :: c230 :: c231 :: c232 :: c233 :: c234 :: c235 :: c236 :: c237 :: c238 :: c239 :: c240 :: c241 :: c242 :: c243 :: c244 :: c245 :: c246 :: c247 :: c248 :: u249 :: u250 :: u251 :: u252 :: u253 :: u254 :: u255 :: u256 :: u257 :: u258 :: u259 :: u260 :: u261 :: u262 :: u263 :: u264 :: u265 :: u266 :: u267 :: u268 :: u269 :: u270 :: u271 :: u272 :: u273 :: c274 :: c275 :: c276 :: c277 :: c278 :: c279 :: c280 :: c281 :: c282 :: c283 :: c284 :: c285 :: c286 :: c287 :: c288 :: c289 :: c290 :: c291 :: c292 :: c293 :: c294 :: c295 :: c296 :: c297 :: c298 :: c299 :: c300 :: c301 :: c302 :: c303 :: c304 :: c305 :: c306 :: c307 :: c308 :: c309 :: c310 :: c311 :: c312 :: c313 :: c314 :: c315 :: c316 :: c317 :: c318 :: c319 :: c320 :: c321 :: c322 :: c323 :: c324 :: c325 :: c326 :: c327 :: c328 :: c329 :: c330 :: c331 :: c332 :: c333 :: c334 :: c335 :: c336 :: c337 :: c338 :: c339 :: c340 :: c341 :: c342 :: c343 :: c344 :: c345 :: c346 :: c347 :: c348 :: c349 :: c350 :: c351 :: c352 :: c353 :: c354 :: c355 :: c356 :: c357 :: c358 :: c359 :: c360 :: c361 :: c362 :: c363 :: c364 :: c365 :: c366 :: c367 :: []), []⟩ wx) :
    Code.wp Yba.prog ((loopsOf (Yba.f4.body.getD .skip)).getD 11 .skip) (exitOnly 22 E) ⟨List.toArray (c0 :: c1 :: c2 :: c3 :: c4 :: (Value.pointer (some ⟨c.sb, 0, none⟩)) :: c6 :: c7 :: c8 :: (Value.pointer (some ⟨tb, 0, none⟩)) :: c10 :: c11 :: c12 :: c13 :: c14 :: c15 :: c16 :: c17 :: c18 :: c19 :: c20 :: c21 :: c22 :: c23 :: c24 :: c25 :: c26 :: c27 :: c28 :: c29 :: c30 :: c31 :: (Value.int .i64 0) :: (Value.int .i64 0) :: c34 :: c35 :: c36 :: c37 :: c38 :: c39 :: c40 :: c41 :: c42 :: c43 :: c44 :: c45 :: c46 :: c47 :: c48 :: c49 :: c50 :: c51 :: c52 :: c53 :: c54 :: c55 :: c56 :: c57 :: c58 :: c59 :: c60 :: c61 :: c62 :: c63 :: c64 :: c65 :: c66 :: c67 :: c68 :: c69 :: c70 :: c71 :: c72 :: c73 :: c74 :: c75 :: c76 :: c77 :: c78 :: c79 :: c80 :: c81 :: c82 :: c83 :: c84 :: c85 :: c86 :: c87 :: c88 :: c89 :: c90 :: c91 :: c92 :: c93 :: c94 :: c95 :: c96 :: c97 :: c98 :: c99 :: c100 :: c101 :: c102 :: c103 :: c104 :: c105 :: c106 :: c107 :: c108 :: c109 :: c110 :: c111 :: c112 :: c113 :: c114 :: c115 :: c116 :: c117 :: c118 :: c119 :: c120 :: c121 :: c122 :: c123 :: c124 :: c125 :: c126 :: c127 :: c128 :: c129 :: c130 :: c131 :: c132 :: c133 :: c134 :: c135 :: c136 :: c137 :: c138 :: c139 :: c140 :: c141 :: c142 :: c143 :: c144 :: c145 :: c146 :: c147 :: c148 :: c149 :: c150 :: c151 :: c152 :: c153 :: c154 :: c155 :: c156 :: c157 :: c158 :: c159 :: c160 :: c161 :: c162 :: c163 :: c164 :: c165 :: c166 :: c167 :: c168 :: c169 :: c170 :: c171 :: c172 :: c173 :: c174 :: c175 :: c176 :: c177 :: c178 :: c179 :: c180 :: c181 :: c182 :: c183 :: c184 :: c185 :: c186 :: c187 :: c188 :: c189 :: c190 :: c191 :: c192 :: c193 :: c194 :: c195 :: c196 :: c197 :: c198 :: c199 :: c200 :: c201 :: c202 :: c203 :: c204 :: c205 :: c206 :: c207 :: c208 :: c209 :: c210 :: c211 :: c212 :: c213 :: c214 :: c215 :: c216 :: c217 :: c218 :: c219 :: c220 :: c221 :: c222 :: c223 :: c224 :: c225 :: c226 :: c227 :: c228 :: c229 :: c230 :: c231 :: c232 :: c233 :: c234 :: c235 :: c236 :: c237 :: c238 :: c239 :: c240 :: c241 :: c242 :: c243 :: c244 :: c245 :: c246 :: c247 :: c248 :: c249 :: c250 :: c251 :: c252 :: c253 :: c254 :: c255 :: c256 :: c257 :: c258 :: c259 :: c260 :: c261 :: c262 :: c263 :: c264 :: c265 :: c266 :: c267 :: c268 :: c269 :: c270 :: c271 :: c272 :: c273 :: c274 :: c275 :: c276 :: c277 :: c278 :: c279 :: c280 :: c281 :: c282 :: c283 :: c284 :: c285 :: c286 :: c287 :: c288 :: c289 :: c290 :: c291 :: c292 :: c293 :: c294 :: c295 :: c296 :: c297 :: c298 :: c299 :: c300 :: c301 :: c302 :: c303 :: c304 :: c305 :: c306 :: c307 :: c308 :: c309 :: c310 :: c311 :: c312 :: c313 :: c314 :: c315 :: c316 :: c317 :: c318 :: c319 :: c320 :: c321 :: c322 :: c323 :: c324 :: c325 :: c326 :: c327 :: c328 :: c329 :: c330 :: c331 :: c332 :: c333 :: c334 :: c335 :: c336 :: c337 :: c338 :: c339 :: c340 :: c341 :: c342 :: c343 :: c344 :: c345 :: c346 :: c347 :: c348 :: c349 :: c350 :: c351 :: c352 :: c353 :: c354 :: c355 :: c356 :: c357 :: c358 :: c359 :: c360 :: c361 :: c362 :: c363 :: c364 :: c365 :: c366 :: c367 :: []), []⟩ ws := by
  conv => arg 2; whnf
  obtain ⟨L, V, SE, SS, LA, VA, hx, hm⟩ := hs
  go_loopw [32, 33] (fun a b wr => ∃ i : Nat, i ≤ 4 ∧ a = .int .i64 (cntA m i : Nat) ∧ b = .int .i64 i ∧ Fr (fun _ => False) ws wr) (fun _ b _ => 4 - (intOf b).toNat)
  case atStart => exact ⟨0, Nat.zero_le _, rfl, rfl, Fr.refl _ _⟩
  case round =>
    obtain ⟨i, hi, rfl, rfl, hf⟩ := hrel
    by_cases hlt : i < 4
    · clear hexit
      have hx1 := hx.fr0 hf
      have hb1 := hf.blk hb (fun s => s)
      have hwr := wrap8 (show i < 16 by omega)
      have hcs := cntA_succ m i
      have hcl := cntA_le m i
      have HC := fun w => battr_any i w
      rw [Nat.mod_eq_of_lt hlt] at HC
      have hd : decide (i ∈ LA) = m.at_ i := by
        have := hm.attr i
        cases hp : m.at_ i
        · exact decide_eq_false (fun e => by have := (this.1 e).2; rw [hp] at this; simp at this)
        · exact decide_eq_true (this.2 ⟨hlt, hp⟩)
      have hzz : (if i ∈ LA then VA i else valV) = valV := by
        by_cases e : i ∈ LA
        · rw [if_pos e]; exact hx1.attrV i e
        · rw [if_neg e]
      have hlook : ∀ W : World, Fr (fun _ => False) wr W → (Instr.lookup 67 (.map (some c.m4)) (atV i) true).run Yba.prog W = .ok (.tuple #[.agg #[.int .u8 0, .int .u64 0, .string ⟨#[]⟩, .slice none 0 0, .slice none 0 0], .bool (m.at_ i)]) W := fun W hW => by
        have := (hx1.attr.fr hW (fun s => s)).look kok57 Yba.underlying67 z30 hlt true
        rw [hzz, hd] at this
        simpa [valV] using this
      have hlook1 := fun o => hlook ((wr.alloc o).drew) (((Fr.refl _ wr).alloc o).drew)
      have hlook2 := fun o o' => hlook (((wr.alloc o).alloc o').drew) ((((Fr.refl _ wr).alloc o).alloc o').drew)
      have a4 : wr.cell? ⟨c.sb, 4, none⟩ = some (.map (some c.m4)) := (hx1.blk.cell 4).trans rfl
      have a5 : ∀ o, (wr.alloc o).cell? ⟨c.sb, 4, none⟩ = some (.map (some c.m4)) := fun o => ((hx1.blk.alloc o).cell 4).trans rfl
      have a6 : ∀ o o', ((wr.alloc o).alloc o').cell? ⟨c.sb, 4, none⟩ = some (.map (some c.m4)) := fun o o' => (((hx1.blk.alloc o).alloc o').cell 4).trans rfl
      have b0 : wr.cell? ⟨tb, i, none⟩ = some (.bool (m.at_ i)) := (hb1.cell i).trans (arrC_at _ hlt)
      have hfb := fun (w2 : World) (h2 : Fr (fun _ => False) wr w2) => (((h2.blk hb1 (fun s => s)).cell i).trans (arrC_at _ hlt) : w2.cell? ⟨tb, i, none⟩ = some (.bool (m.at_ i)))
      generalize atV i = rv at *
      generalize atC i = rc at *
      clear hx hx1 hb hb1 hm hd hzz hlook
      cases hp : m.at_ i
      · rw [hp] at b0 hfb hlook1 hlook2 hcs
        go_upto_region 81 with fail
        go_cut [34, 35] from 249 to 273 (fun _ s35 wc => s35 = .bool false ∧ Fr (fun _ => False) wr wc)
        case first =>
          go_region_with (go_at_call 10; refine (HC _).mono ?_; rintro r w' ⟨rfl, rfl⟩)
          all_goals go_wp2
          all_goals go_meet
          all_goals first | exact ⟨rfl, (((Fr.refl _ wr).alloc _).alloc _).drew⟩ | exact ⟨rfl, (((Fr.refl _ wr).drew).alloc _).alloc _⟩
        case rest =>
          obtain ⟨rfl, hfc⟩ := hcut
          have b1 := hfb _ hfc
          clear HC hlook1 hlook2 a4 a5 a6 hfb b0
          go_wp2
          go_roundw
          case rel => exact ⟨i + 1, by omega, by rw [hcs]; rfl, by go_num, hf.trans hfc⟩
          case measure => simp [intOf]; omega
      · rw [hp] at b0 hfb hlook1 hlook2 hcs
        go_upto_region 81 with fail
        go_cut [34, 35] from 249 to 273 (fun _ s35 wc => s35 = .bool true ∧ Fr (fun _ => False) wr wc)
        case first =>
          go_region_with (go_at_call 10; refine (HC _).mono ?_; rintro r w' ⟨rfl, rfl⟩)
          all_goals go_wp2
          all_goals go_meet
          all_goals first | exact ⟨rfl, (((Fr.refl _ wr).alloc _).alloc _).drew⟩ | exact ⟨rfl, (((Fr.refl _ wr).drew).alloc _).alloc _⟩
        case rest =>
          obtain ⟨rfl, hfc⟩ := hcut
          have b1 := hfb _ hfc
          clear HC hlook1 hlook2 a4 a5 a6 hfb b0
          go_wp2
          go_roundw
          case rel => exact ⟨i + 1, by omega, by rw [hcs]; go_num, by go_num, hf.trans hfc⟩
          case measure => simp [intOf]; omega
    · have hii : i = 4 := by omega
      subst hii
      go_wp2
      exact ⟨rfl, hexit _ _ _ _ _ _ _ _ _ _ _ _ _ _ _ _ _ _ _ _ _ _ _ _ _ _ _ _ _ _ hf⟩

end Go.Proofs.Ybulkomi
