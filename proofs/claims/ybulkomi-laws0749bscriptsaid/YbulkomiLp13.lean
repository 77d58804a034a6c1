/-
  The law's loop 13.
-/
import Derived.Test.YbulkomiLp14
namespace Go.Proofs.Ybulkomi
open Go.RowKit

set_option maxHeartbeats 2000000 in
set_option maxRecDepth 100000 in
theorem lp13 {c : Cfg} {B pb lb : Nat} {m : Mdl} {ao : Option Addr} {cp : Nat} {ws : World} (hs : SR c ws m) (hb : Blk ws pb (presC m) 40) (hlb : Blk ws lb (placC m) 41) (hg : ws.ownsRow B 3 1 (.slice ao m.log.length cp) m.log.length (logV m)) (hn : m.log.length ≤ 50000)
    {c0 c1 c2 c3 c4 c9 c10 c11 c12 c13 c14 c15 c16 c17 c18 c19 c20 c21 c22 c23 c24 c25 c26 c27 c28 c29 c30 c31 c32 c33 c34 c35 c37 c38 c39 c40 c41 c42 c43 c44 c45 c46 c47 c48 c49 c50 c51 c52 c53 c54 c55 c56 c57 c58 c59 c60 c61 c62 c63 c64 c65 c66 c67 c68 c69 c70 c71 c72 c73 c74 c75 c76 c77 c78 c79 c80 c81 c82 c83 c84 c85 c86 c87 c88 c89 c90 c91 c92 c93 c94 c95 c96 c97 c98 c99 c100 c101 c102 c103 c104 c105 c106 c107 c108 c109 c110 c111 c112 c113 c114 c115 c116 c117 c118 c119 c120 c121 c122 c123 c124 c125 c126 c127 c128 c129 c130 c131 c132 c133 c134 c135 c136 c137 c138 c139 c140 c141 c142 c143 c144 c145 c146 c147 c148 c149 c150 c151 c152 c153 c154 c155 c156 c157 c158 c159 c160 c161 c162 c163 c164 c165 c166 c167 c168 c169 c170 c171 c172 c173 c174 c175 c176 c177 c178 c179 c180 c181 c182 c183 c184 c185 c186 c187 c188 c189 c190 c191 c192 c193 c194 c195 c196 c197 c198 c199 c200 c201 c202 c203 c204 c205 c206 c207 c208 c209 c210 c211 c212 c213 c214 c215 c216 c217 c218 c219 c220 c221 c222 c223 c224 c225 c226 c227 c228 c229 c230 c231 c232 c233 c234 c235 c236 c237 c238 c239 c240 c241 c242 c243 c244 c245 c246 c247 c248 c249 c250 c251 c252 c253 c254 c255 c256 c257 c258 c259 c260 c261 c262 c263 c264 c265 c266 c267 c268 c269 c270 c271 c272 c273 c274 c275 c276 c277 c278 c279 c280 c281 c282 c283 c284 c285 c286 c287 c288 c289 c290 c291 c292 c293 c294 c295 c296 c297 c298 c299 c300 c301 c302 c303 c304 c305 c306 c307 c308 c309 c310 c311 c312 c313 c314 c315 c316 c317 c318 c319 c320 c321 c322 c323 c324 c325 c326 c327 c328 c329 c330 c331 c332 c333 c334 c335 c336 c337 c338 c339 c340 c341 c342 c343 c344 c345 c346 c347 c348 c349 c350 c351 c352 c353 c354 c355 c356 c357 c358 c359 c360 c361 c362 c363 c364 c365 c366 c367 : Value} (E : Act → World → Prop)
    (hexit : ∀ (u2 u36 u37 u38 u39 u40 u41 u42 u43 u44 u45 u46 u278 u279 u280 u281 u282 u283 u284 u285 u286 u287 u288 u289 u290 u291 u292 u293 u294 u295 u296 u297 u298 u299 u300 u301 u302 u303 u304 u305 u306 u307 u308 u309 u310 u311 u312 u313 u314 u315 u316 u317 u318 u319 u320 u321 u322 u323 u324 u325 u326 u327 u328 u329 u330 u331 u332 u333 u334 u335 u336 u337 u338 u339 u340 u341 u342 u343 u344 u345 u346 u347 u348 u349 u350 u351 u352 u353 u354 u355 u356 u357 u358 u359 u360 u361 u362 u363 u364 u365 u366 : Value) (wx : World), (Fr (fun _ => False) ws wx) → E ⟨List.toArray (c0 :: c1 :: u2 :: c3 :: c4 :: (Value.pointer (some ⟨c.sb, 0, none⟩)) :: (Value.pointer (some ⟨pb, 0, none⟩)) :: (Value.pointer (some ⟨lb, 0, none⟩)) :: (Value.slice ao m.log.length cp) :: c9 :: c10 :: c11 :: c12 :: c13 :: c14 :: c15 :: c16 :: c17 :: c18 :: c19 :: c20 :: c21 :: c22 :: c23 :: c24 :: c25 :: c26 :: c27 :: c28 :: c29 :: c30 :: c31 :: c32 :: c33 :: c34 :: c35 :: u36 :: u37 :: u38 :: u39 :: u40 :: u41 :: u42 :: u43 :: u44 :: u45 :: u46 :: c47 :: c48 :: c49 :: c50 :: c51 :: c52 :: c53 :: c54 :: c55 :: c56 :: c57 :: c58 :: c59 :: c60 :: c61 :: c62 :: c63 :: c64 :: c65 :: c66 :: c67 :: c68 :: c69 :: c70 :: c71 :: c72 :: c73 :: c74 :: c75 :: c76 :: c77 :: c78 :: c79 :: c80 :: c81 :: c82 :: c83 :: c84 :: c85 :: c86 :: c87 :: c88 :: c89 :: c90 :: c91 :: c92 :: c93 :: c94 :: c95 :: c96 :: c97 :: c98 :: c99 :: c100 :: c101 :: c102 :: c103 :: c104 :: c105 :: c106 :: c107 :: c108 :: c109 :: c110 :: c111 :: c112 :: c113 :: c114 :: c115 :: c116 :: c117 :: c118 :: c119 :: c120 :: c121 :: c122 :: c123 :: c124 :: c125 :: c126 :: c127 :: c128 :: c129 :: c130 :: c131 :: c132 :: c133 :: c134 :: c135 :: c136 :: c137 :: c138 :: c139 :: c140 :: c141 :: c142 :: c143 :: c144 :: c145 :: c146 :: c147 :: c148 :: c149 :: c150 :: c151 :: c152 :: c153 :: c154 :: c155 :: c156 :: c157 :: c158 :: c159 :: c160 :: c161 :: c162 :: c163 :: c164 :: c165 :: c166 :: c167 :: c168 :: c169 :: c170 :: c171 :: c172 :: c173 :: c174 :: c175 :: c176 :: c177 :: c178 :: c179 :: c180 :: c181 :: c182 :: c183 :: c184 :: c185 :: c186 :: c187 :: c188 :: c189 :: c190 :: c191 :: c192 :: c193 :: c194 :: c195 :: c196 :: c197 :: c198 :: c199 :: c200 :: c201 :: c202 :: c203 :: c204 :: c205 :: c206 :: c207 :: c208 :: c209 :: c210 :: c211 :: c212 :: c213 :: c214 :: c215 :: c216 :: c217 :: c218 :: c219 :: c220 :: c221 :: c222 :: c223 :: c224 :: c225 :: c226 :: c227 :: c228 :: c229 :: c230 :: c231 :: c232 :: c233 :: c234 :: c235 :: c236 :: c237 :: c238 :: c239 :: c240 :: c241 :: c242 :: c243 :: c244 :: c245 :: c246 :: c247 :: c248 :: c249 :: c250 :: c251 :: c252 :: c253 :: c254 :: c255 :: c256 :: c257 :: c258 :: c259 :: c260 :: c261 :: c262 :: c263 :: c264 :: c265 :: c266 :: c267 :: c268 :: c269 :: c270 :: c271 :: c272 :: c273 :: c274 :: c275 :: c276 :: c277 :: u278 :: u279 :: u280 :: u281 :: u282 :: u283 :: u284 :: u285 :: u286 :: u287 :: u288 :: u289 :: u290 :: u291 :: u292 :: u293 :: u294 :: u295 :: u296 :: u297 :: u298 :: u299 :: u300 :: u301 :: u302 :: u303 :: u304 :: u305 :: u306 :: u307 :: u308 :: u309 :: u310 :: u311 :: u312 :: u313 :: u314 :: u315 :: u316 :: u317 :: u318 :: u319 :: u320 :: u321 :: u322 :: u323 :: u324 :: u325 :: u326 :: u327 :: u328 :: u329 :: u330 :: u331 :: u332 :: u333 :: u334 :: u335 :: u336 :: u337 :: u338 :: u339 :: u340 :: u341 :: u342 :: u343 :: u344 :: u345 :: u346 :: u347 :: u348 :: u349 :: u350 :: u351 :: u352 :: u353 :: u354 :: u355 :: u356 :: u357 :: u358 :: u359 :: u360 :: u361 :: u362 :: u363 :: u364 :: u365 :: u366 :: c367 :: []), []⟩ wx) :
    Code.wp Yba.prog ((loopsOf (Yba.f4.body.getD .skip)).getD 12 .skip) (exitOnly 24 E) ⟨List.toArray (c0 :: c1 :: c2 :: c3 :: c4 :: (Value.pointer (some ⟨c.sb, 0, none⟩)) :: (Value.pointer (some ⟨pb, 0, none⟩)) :: (Value.pointer (some ⟨lb, 0, none⟩)) :: (Value.slice ao m.log.length cp) :: c9 :: c10 :: c11 :: c12 :: c13 :: c14 :: c15 :: c16 :: c17 :: c18 :: c19 :: c20 :: c21 :: c22 :: c23 :: c24 :: c25 :: c26 :: c27 :: c28 :: c29 :: c30 :: c31 :: c32 :: c33 :: c34 :: c35 :: (Value.int .i64 0) :: c37 :: c38 :: c39 :: c40 :: c41 :: c42 :: c43 :: c44 :: c45 :: c46 :: c47 :: c48 :: c49 :: c50 :: c51 :: c52 :: c53 :: c54 :: c55 :: c56 :: c57 :: c58 :: c59 :: c60 :: c61 :: c62 :: c63 :: c64 :: c65 :: c66 :: c67 :: c68 :: c69 :: c70 :: c71 :: c72 :: c73 :: c74 :: c75 :: c76 :: c77 :: c78 :: c79 :: c80 :: c81 :: c82 :: c83 :: c84 :: c85 :: c86 :: c87 :: c88 :: c89 :: c90 :: c91 :: c92 :: c93 :: c94 :: c95 :: c96 :: c97 :: c98 :: c99 :: c100 :: c101 :: c102 :: c103 :: c104 :: c105 :: c106 :: c107 :: c108 :: c109 :: c110 :: c111 :: c112 :: c113 :: c114 :: c115 :: c116 :: c117 :: c118 :: c119 :: c120 :: c121 :: c122 :: c123 :: c124 :: c125 :: c126 :: c127 :: c128 :: c129 :: c130 :: c131 :: c132 :: c133 :: c134 :: c135 :: c136 :: c137 :: c138 :: c139 :: c140 :: c141 :: c142 :: c143 :: c144 :: c145 :: c146 :: c147 :: c148 :: c149 :: c150 :: c151 :: c152 :: c153 :: c154 :: c155 :: c156 :: c157 :: c158 :: c159 :: c160 :: c161 :: c162 :: c163 :: c164 :: c165 :: c166 :: c167 :: c168 :: c169 :: c170 :: c171 :: c172 :: c173 :: c174 :: c175 :: c176 :: c177 :: c178 :: c179 :: c180 :: c181 :: c182 :: c183 :: c184 :: c185 :: c186 :: c187 :: c188 :: c189 :: c190 :: c191 :: c192 :: c193 :: c194 :: c195 :: c196 :: c197 :: c198 :: c199 :: c200 :: c201 :: c202 :: c203 :: c204 :: c205 :: c206 :: c207 :: c208 :: c209 :: c210 :: c211 :: c212 :: c213 :: c214 :: c215 :: c216 :: c217 :: c218 :: c219 :: c220 :: c221 :: c222 :: c223 :: c224 :: c225 :: c226 :: c227 :: c228 :: c229 :: c230 :: c231 :: c232 :: c233 :: c234 :: c235 :: c236 :: c237 :: c238 :: c239 :: c240 :: c241 :: c242 :: c243 :: c244 :: c245 :: c246 :: c247 :: c248 :: c249 :: c250 :: c251 :: c252 :: c253 :: c254 :: c255 :: c256 :: c257 :: c258 :: c259 :: c260 :: c261 :: c262 :: c263 :: c264 :: c265 :: c266 :: c267 :: c268 :: c269 :: c270 :: c271 :: c272 :: c273 :: c274 :: c275 :: c276 :: c277 :: c278 :: c279 :: c280 :: c281 :: c282 :: c283 :: c284 :: c285 :: c286 :: c287 :: c288 :: c289 :: c290 :: c291 :: c292 :: c293 :: c294 :: c295 :: c296 :: c297 :: c298 :: c299 :: c300 :: c301 :: c302 :: c303 :: c304 :: c305 :: c306 :: c307 :: c308 :: c309 :: c310 :: c311 :: c312 :: c313 :: c314 :: c315 :: c316 :: c317 :: c318 :: c319 :: c320 :: c321 :: c322 :: c323 :: c324 :: c325 :: c326 :: c327 :: c328 :: c329 :: c330 :: c331 :: c332 :: c333 :: c334 :: c335 :: c336 :: c337 :: c338 :: c339 :: c340 :: c341 :: c342 :: c343 :: c344 :: c345 :: c346 :: c347 :: c348 :: c349 :: c350 :: c351 :: c352 :: c353 :: c354 :: c355 :: c356 :: c357 :: c358 :: c359 :: c360 :: c361 :: c362 :: c363 :: c364 :: c365 :: c366 :: c367 :: []), []⟩ ws := by
  conv => arg 2; whnf
  obtain ⟨L, V, SE, SS, LA, VA, hx, hm⟩ := hs
  go_loopw [36] (fun a wr => ∃ q : Nat, q ≤ 4 ∧ a = .int .i64 q ∧ Fr (fun _ => False) ws wr) (fun a _ => 4 - (intOf a).toNat)
  case atStart => exact ⟨0, Nat.zero_le _, rfl, Fr.refl _ _⟩
  case round =>
    obtain ⟨q, hq, rfl, hf⟩ := hrel
    by_cases hlt : q < 4
    · clear hexit
      obtain ⟨LE, VE, gE, kE, eA, eB, eC, eD⟩ := hx.ent.rep
      obtain ⟨LS, VS, gS, kS, sA, sB, sC, sD⟩ := hx.sets.rep
      obtain ⟨aoE, cpE, atE, ownE, _⟩ := er_at eB eC hlt
      obtain ⟨aoS, cpS, atS, ownS, _⟩ := Sj.er_at sB sC hlt
      obtain ⟨bE, hbE⟩ : ∃ b, b = decide (SE q ≠ []) := ⟨_, rfl⟩
      obtain ⟨bS, hbS⟩ : ∃ b, b = decide (SS q ≠ []) := ⟨_, rfl⟩
      have dE : decide (q ∈ LE) = bE := by rw [hbE]; have := eB q; simp [this, hlt]
      have dS : decide (q ∈ LS) = bS := by rw [hbS]; have := sB q; simp [this, hlt]
      have lookE : ∀ W : World, Fr (fun _ => False) ws W → (Instr.lookup 64 (.map (some c.m2)) (erV q) true).run Yba.prog W = .ok (.tuple #[.agg #[.slice aoE (SE q).length cpE, .int .i64 (holes (SE q) : Nat)], .bool bE]) W := fun W hW => by
        have := (eA.fr hW (fun s => s)).look kok82 Yba.underlying64 z84 hlt true
        rw [atE, dE] at this
        simpa using this
      have lookS : ∀ W : World, Fr (fun _ => False) ws W → (Instr.lookup 66 (.map (some c.m3)) (erV q) true).run Yba.prog W = .ok (.tuple #[.agg #[.slice aoS (SS q).length cpS, .int .i64 (holes (SS q) : Nat)], .bool bS]) W := fun W hW => by
        have := (sA.fr hW (fun s => s)).look kok82 Yba.underlying66 Sj.z88 hlt true
        rw [atS, dS] at this
        simpa using this
      have hLE := hm.ent q hlt
      have hLS := hm.sets q hlt
      have hblk := hx.blk
      have hinv := hm.inv
      have SAE := fun (W : World) (hW : Fr (fun _ => False) ws W) (lo2 : Nat) (vw : Value) (hw : W.ownsRow lo2 76 3 vw (expL m q false m.log.length).length (flat (expL m q false m.log.length))) => same_any (hW.own ownE (fun _ _ s => s)) (Nat.le_trans hLE.len (by omega)) hw hLE.live hLE.ne hbE
      have SAS := fun (W : World) (hW : Fr (fun _ => False) ws W) (lo2 : Nat) (vw : Value) (hw : W.ownsRow lo2 78 4 vw (expL m q true m.log.length).length (Sj.flat (expL m q true m.log.length))) => Sj.same_any (hW.own ownS (fun _ _ s => s)) (Nat.le_trans hLS.len (by omega)) hw hLS.live hLS.ne hbS
      clear eA eB eC eD sA sB sC sD atE atS dE dS hx hm hLE hLS hbE hbS
      go_wp2
      refine wp_exitOnly (lp14 (hf.blk hb (fun s => s)) (hf.blk hlb (fun s => s)) (hf.own hg (fun _ _ s => s)) hinv hn _ ?_)
      intros
      rename_i hpost
      rename World => wx
      obtain ⟨w1, w2, hfx⟩ := hpost
      have hW0 : Fr (fun _ => False) ws wx := hf.trans hfx
      go_upto_region 100 with fail
      go_cut [36, 42] from 278 to 366 (fun a s wc => a = .int .i64 q ∧ s = .pointer (some ⟨wx.heap.size, 0, none⟩) ∧ wc = wx.alloc (.cells (erC q) 82))
      case first =>
        clear lookE lookS SAE SAS ownE ownS w1 w2 hb hlb hg hf hfx hW0 hblk hinv hn
        obtain ⟨q0, q1, q2, q3, _⟩ := bits1
        rcases lt4 q hlt with rfl | rfl | rfl | rfl
        all_goals go_wp2
        all_goals go_meet
        all_goals exact ⟨rfl, rfl, rfl⟩
      case rest =>
      obtain ⟨rfl, rfl, hwc⟩ := hcut
      have h82 : Blk wc wx.heap.size (erC q) 82 := by rw [hwc]; exact Blk.new _ _ _ _ rfl
      have hW : Fr (fun _ => False) ws wc := by rw [hwc]; exact hW0.alloc _
      have w1c := w1.alloc (.cells (erC q) 82)
      have w2c := w2.alloc (.cells (erC q) 82)
      rw [← hwc] at w1c w2c
      clear hwc w1 w2 hf hfx hW0 hb hlb hg hinv
      unfold erV at lookE lookS
      unfold erC at lookE lookS h82
      generalize bidS (q % 2) = s1 at *
      generalize rnS (q / 2 % 2) = s2 at *
      go_upto_region 101 with fail
      go_cut [43, 44] from 278 to 366 (fun s t wz => s = .pointer (some ⟨wc.heap.size, 0, none⟩) ∧ t = .bool bE ∧ wz = (wc.alloc (.cells #[.slice aoE (SE q).length cpE, .int .i64 (holes (SE q) : Nat)] 84)).drew)
      case first =>
        have l1 := lookE (wc.drew) (hW.drew)
        have l2 := fun o => lookE ((wc.alloc o).drew) ((hW.alloc o).drew)
        have a1 : wc.cell? ⟨c.sb, 1, none⟩ = some (.map (some c.m2)) := ((hW.blk hblk (fun s => s)).cell 1).trans rfl
        have a2 : ∀ o, (wc.alloc o).cell? ⟨c.sb, 1, none⟩ = some (.map (some c.m2)) := fun o => (((hW.blk hblk (fun s => s)).alloc o).cell 1).trans rfl
        have d0 : wc.cell? ⟨wx.heap.size, 0, none⟩ = some (.string docS) := (h82.cell 0).trans rfl
        have d1 : wc.cell? ⟨wx.heap.size, 1, none⟩ = some (.string s1) := (h82.cell 1).trans rfl
        have d2 : wc.cell? ⟨wx.heap.size, 2, none⟩ = some (.string s2) := (h82.cell 2).trans rfl
        have e0 : ∀ o, (wc.alloc o).cell? ⟨wx.heap.size, 0, none⟩ = some (.string docS) := fun o => ((h82.alloc o).cell 0).trans rfl
        have e1 : ∀ o, (wc.alloc o).cell? ⟨wx.heap.size, 1, none⟩ = some (.string s1) := fun o => ((h82.alloc o).cell 1).trans rfl
        have e2 : ∀ o, (wc.alloc o).cell? ⟨wx.heap.size, 2, none⟩ = some (.string s2) := fun o => ((h82.alloc o).cell 2).trans rfl
        clear lookE lookS SAE SAS ownE ownS hblk h82 w1c w2c
        go_region
        all_goals go_wp2
        all_goals go_meet
        all_goals exact ⟨rfl, rfl, rfl⟩
      case rest =>
      obtain ⟨rfl, rfl, hwz⟩ := hcut
      subst hwz
      have hWz : Fr (fun _ => False) ws ((wc.alloc (.cells #[.slice aoE (SE q).length cpE, .int .i64 (holes (SE q) : Nat)] 84)).drew) := (hW.alloc _).drew
      have HS := SAE _ hWz _ _ ((w1c.alloc _).drew)
      have h82z := ((h82.alloc (.cells #[.slice aoE (SE q).length cpE, .int .i64 (holes (SE q) : Nat)] 84)).drew)
      have w2z := ((w2c.alloc (.cells #[.slice aoE (SE q).length cpE, .int .i64 (holes (SE q) : Nat)] 84)).drew)
      clear SAE lookE ownE w1c w2c h82 hW
      go_upto_region 104 with (go_at_call 17; refine HS.mono ?_; rintro r wd ⟨rfl, hfd⟩)
      have hW : Fr (fun _ => False) ws wd := hWz.trans hfd
      have h82 := hfd.blk h82z (fun s => s)
      have w2c := hfd.own w2z (fun _ _ s => s)
      clear HS h82z w2z hWz hfd
      go_cut [45, 46] from 278 to 366 (fun s t wc => s = .pointer (some ⟨wd.heap.size, 0, none⟩) ∧ t = .bool bS ∧ wc = (wd.alloc (.cells #[.slice aoS (SS q).length cpS, .int .i64 (holes (SS q) : Nat)] 88)).drew)
      case first =>
        have l1 := lookS (wd.drew) (hW.drew)
        have l2 := fun o => lookS ((wd.alloc o).drew) ((hW.alloc o).drew)
        have a1 : wd.cell? ⟨c.sb, 2, none⟩ = some (.map (some c.m3)) := ((hW.blk hblk (fun s => s)).cell 2).trans rfl
        have a2 : ∀ o, (wd.alloc o).cell? ⟨c.sb, 2, none⟩ = some (.map (some c.m3)) := fun o => (((hW.blk hblk (fun s => s)).alloc o).cell 2).trans rfl
        have d0 : wd.cell? ⟨wx.heap.size, 0, none⟩ = some (.string docS) := (h82.cell 0).trans rfl
        have d1 : wd.cell? ⟨wx.heap.size, 1, none⟩ = some (.string s1) := (h82.cell 1).trans rfl
        have d2 : wd.cell? ⟨wx.heap.size, 2, none⟩ = some (.string s2) := (h82.cell 2).trans rfl
        have e0 : ∀ o, (wd.alloc o).cell? ⟨wx.heap.size, 0, none⟩ = some (.string docS) := fun o => ((h82.alloc o).cell 0).trans rfl
        have e1 : ∀ o, (wd.alloc o).cell? ⟨wx.heap.size, 1, none⟩ = some (.string s1) := fun o => ((h82.alloc o).cell 1).trans rfl
        have e2 : ∀ o, (wd.alloc o).cell? ⟨wx.heap.size, 2, none⟩ = some (.string s2) := fun o => ((h82.alloc o).cell 2).trans rfl
        clear lookS SAS ownS hblk h82 w2c
        go_region
        all_goals go_wp2
        all_goals go_meet
        all_goals exact ⟨rfl, rfl, rfl⟩
      case rest =>
      obtain ⟨rfl, rfl, hwz⟩ := hcut
      subst hwz
      have hWz : Fr (fun _ => False) ws ((wd.alloc (.cells #[.slice aoS (SS q).length cpS, .int .i64 (holes (SS q) : Nat)] 88)).drew) := (hW.alloc _).drew
      have HS := SAS _ hWz _ _ ((w2c.alloc _).drew)
      clear SAS lookS ownS w2c h82 hW
      go_wp2_with (go_at_call 18; refine HS.mono ?_; rintro r we ⟨rfl, hfe⟩)
      go_wp2
      go_roundw
      case rel => exact ⟨q + 1, by omega, by go_num, hWz.trans hfe⟩
      case measure => simp [intOf]; omega
    · have hii : q = 4 := by omega
      subst hii
      go_wp2
      exact ⟨rfl, hexit _ _ _ _ _ _ _ _ _ _ _ _ _ _ _ _ _ _ _ _ _ _ _ _ _ _ _ _ _ _ _ _ _ _ _ _ _ _ _ _ _ _ _ _ _ _ _ _ _ _ _ _ _ _ _ _ _ _ _ _ _ _ _ _ _ _ _ _ _ _ _ _ _ _ _ _ _ _ _ _ _ _ _ _ _ _ _ _ _ _ _ _ _ _ _ _ _ _ _ _ _ _ hf⟩

end Go.Proofs.Ybulkomi
