/-
  The law's loop 2 (over the steps).
-/
import Derived.Test.YbulkomiLaw2
import Derived.Test.YbulkomiLp3
import Derived.Test.YbulkomiLp4
import Derived.Test.YbulkomiLp5
import Derived.Test.YbulkomiLp6
import Derived.Test.YbulkomiLp7
import Derived.Test.YbulkomiLp8
import Derived.Test.YbulkomiLp9
import Derived.Test.YbulkomiLp10
import Derived.Test.YbulkomiLp11
import Derived.Test.YbulkomiLp12
import Derived.Test.YbulkomiLp13
namespace Go.Proofs.Ybulkomi
open Go.RowKit

set_option maxHeartbeats 8000000 in
set_option maxRecDepth 100000 in
theorem lp2 {w : World} {a0 : Option Addr} {n cap : Nat} {A : Nat → Nat → Option Addr} {C : Nat → Nat → Nat} {X : Nat → Nat → List Nat} {c : Cfg} {pb lb tb : Nat} {ws : World} (H : StIn w a0 n A C X) (hn : n ≤ 64) (hL : ∀ i, i < n → ∀ f, f < 4 → (X i f).length ≤ 256) (hc : c.lo = w.heap.size) (hs0 : SR c ws m0) (ha0 : AR w pb lb tb m0 (.slice none 0 0) ws)
    {c0 c1 c2 c3 c4 c10 c11 c12 c13 c14 c15 c16 c17 c18 c19 c20 c21 c22 c23 c24 c25 c26 c27 c28 c29 c30 c31 c32 c33 c34 c35 c36 c37 c38 c39 c40 c41 c42 c43 c44 c45 c46 c47 c48 c49 c50 c51 c52 c53 c54 c55 c56 c57 c58 c59 c60 c61 c62 c63 c64 c65 c66 c67 c68 c69 c70 c71 c72 c73 c74 c75 c76 c77 c78 c79 c83 c84 c85 c86 c87 c88 c89 c90 c91 c92 c93 c94 c95 c96 c97 c98 c99 c100 c101 c102 c103 c104 c105 c106 c107 c108 c109 c110 c111 c112 c113 c114 c115 c116 c117 c118 c119 c120 c121 c122 c123 c124 c125 c126 c127 c128 c129 c130 c131 c132 c133 c134 c135 c136 c137 c138 c139 c140 c141 c142 c143 c144 c145 c146 c147 c148 c149 c150 c151 c152 c153 c154 c155 c156 c157 c158 c159 c160 c161 c162 c163 c164 c165 c166 c167 c168 c169 c170 c171 c172 c173 c174 c175 c176 c177 c178 c179 c180 c181 c182 c183 c184 c185 c186 c187 c188 c189 c190 c191 c192 c193 c194 c195 c196 c197 c198 c199 c200 c201 c202 c203 c204 c205 c206 c207 c208 c209 c210 c211 c212 c213 c214 c215 c216 c217 c218 c219 c220 c221 c222 c223 c224 c225 c226 c227 c228 c229 c230 c231 c232 c233 c234 c235 c236 c237 c238 c239 c240 c241 c242 c243 c244 c245 c246 c247 c248 c249 c250 c251 c252 c253 c254 c255 c256 c257 c258 c259 c260 c261 c262 c263 c264 c265 c266 c267 c268 c269 c270 c271 c272 c273 c274 c275 c276 c277 c278 c279 c280 c281 c282 c283 c284 c285 c286 c287 c288 c289 c290 c291 c292 c293 c294 c295 c296 c297 c298 c299 c300 c301 c302 c303 c304 c305 c306 c307 c308 c309 c310 c311 c312 c313 c314 c315 c316 c317 c318 c319 c320 c321 c322 c323 c324 c325 c326 c327 c328 c329 c330 c331 c332 c333 c334 c335 c336 c337 c338 c339 c340 c341 c342 c343 c344 c345 c346 c347 c348 c349 c350 c351 c352 c353 c354 c355 c356 c357 c358 c359 c360 c361 c362 c363 c364 c365 c366 c367 : Value} (E : Act → World → Prop)
    (hexit : ∀ (u2 u8 u11 u12 u14 u16 u18 u20 u22 u23 u25 u27 u29 u30 u31 u32 u33 u34 u35 u36 u37 u38 u39 u40 u41 u42 u43 u44 u45 u46 u82 u83 u84 u85 u86 u87 u88 u89 u90 u91 u92 u93 u94 u95 u96 u97 u98 u99 u100 u101 u102 u103 u104 u105 u106 u107 u108 u109 u110 u111 u112 u113 u114 u115 u116 u117 u118 u119 u120 u121 u122 u123 u124 u125 u126 u127 u128 u129 u130 u131 u132 u133 u134 u135 u136 u137 u138 u139 u140 u141 u142 u143 u144 u145 u146 u147 u148 u149 u150 u151 u152 u153 u154 u155 u156 u157 u158 u159 u160 u161 u162 u163 u164 u165 u166 u167 u168 u169 u170 u171 u172 u173 u174 u175 u176 u177 u178 u179 u180 u181 u182 u183 u184 u185 u186 u187 u188 u189 u190 u191 u192 u193 u194 u195 u196 u197 u198 u199 u200 u201 u202 u203 u204 u205 u206 u207 u208 u209 u210 u211 u212 u213 u214 u215 u216 u217 u218 u219 u220 u221 u222 u223 u224 u225 u226 u227 u228 u229 u230 u231 u232 u233 u234 u235 u236 u237 u238 u239 u240 u241 u242 u243 u244 u245 u246 u247 u248 u249 u250 u251 u252 u253 u254 u255 u256 u257 u258 u259 u260 u261 u262 u263 u264 u265 u266 u267 u268 u269 u270 u271 u272 u273 u274 u275 u276 u277 u278 u279 u280 u281 u282 u283 u284 u285 u286 u287 u288 u289 u290 u291 u292 u293 u294 u295 u296 u297 u298 u299 u300 u301 u302 u303 u304 u305 u306 u307 u308 u309 u310 u311 u312 u313 u314 u315 u316 u317 u318 u319 u320 u321 u322 u323 u324 u325 u326 u327 u328 u329 u330 u331 u332 u333 u334 u335 u336 u337 u338 u339 u340 u341 u342 u343 u344 u345 u346 u347 u348 u349 u350 u351 u352 u353 u354 u355 u356 u357 u358 u359 u360 u361 u362 u363 u364 u365 u366 u367 : Value) (wx : World), (Fr (fun k => w.heap.size ≤ k) w wx) → E ⟨List.toArray (c0 :: c1 :: u2 :: c3 :: c4 :: (Value.pointer (some ⟨c.sb, 0, none⟩)) :: (Value.pointer (some ⟨pb, 0, none⟩)) :: (Value.pointer (some ⟨lb, 0, none⟩)) :: u8 :: (Value.pointer (some ⟨tb, 0, none⟩)) :: c10 :: u11 :: u12 :: c13 :: u14 :: c15 :: u16 :: c17 :: u18 :: c19 :: u20 :: c21 :: u22 :: u23 :: c24 :: u25 :: c26 :: u27 :: c28 :: u29 :: u30 :: u31 :: u32 :: u33 :: u34 :: u35 :: u36 :: u37 :: u38 :: u39 :: u40 :: u41 :: u42 :: u43 :: u44 :: u45 :: u46 :: c47 :: c48 :: c49 :: c50 :: c51 :: c52 :: c53 :: c54 :: c55 :: c56 :: c57 :: c58 :: c59 :: c60 :: c61 :: c62 :: c63 :: c64 :: c65 :: c66 :: c67 :: c68 :: c69 :: c70 :: c71 :: c72 :: c73 :: c74 :: c75 :: c76 :: c77 :: c78 :: c79 :: (Value.slice a0 n cap) :: (Value.int .i64 n) :: u82 :: u83 :: u84 :: u85 :: u86 :: u87 :: u88 :: u89 :: u90 :: u91 :: u92 :: u93 :: u94 :: u95 :: u96 :: u97 :: u98 :: u99 :: u100 :: u101 :: u102 :: u103 :: u104 :: u105 :: u106 :: u107 :: u108 :: u109 :: u110 :: u111 :: u112 :: u113 :: u114 :: u115 :: u116 :: u117 :: u118 :: u119 :: u120 :: u121 :: u122 :: u123 :: u124 :: u125 :: u126 :: u127 :: u128 :: u129 :: u130 :: u131 :: u132 :: u133 :: u134 :: u135 :: u136 :: u137 :: u138 :: u139 :: u140 :: u141 :: u142 :: u143 :: u144 :: u145 :: u146 :: u147 :: u148 :: u149 :: u150 :: u151 :: u152 :: u153 :: u154 :: u155 :: u156 :: u157 :: u158 :: u159 :: u160 :: u161 :: u162 :: u163 :: u164 :: u165 :: u166 :: u167 :: u168 :: u169 :: u170 :: u171 :: u172 :: u173 :: u174 :: u175 :: u176 :: u177 :: u178 :: u179 :: u180 :: u181 :: u182 :: u183 :: u184 :: u185 :: u186 :: u187 :: u188 :: u189 :: u190 :: u191 :: u192 :: u193 :: u194 :: u195 :: u196 :: u197 :: u198 :: u199 :: u200 :: u201 :: u202 :: u203 :: u204 :: u205 :: u206 :: u207 :: u208 :: u209 :: u210 :: u211 :: u212 :: u213 :: u214 :: u215 :: u216 :: u217 :: u218 :: u219 :: u220 :: u221 :: u222 :: u223 :: u224 :: u225 :: u226 :: u227 :: u228 :: u229 :: u230 :: u231 :: u232 :: u233 :: u234 :: u235 :: u236 :: u237 :: u238 :: u239 :: u240 :: u241 :: u242 :: u243 :: u244 :: u245 :: u246 :: u247 :: u248 :: u249 :: u250 :: u251 :: u252 :: u253 :: u254 :: u255 :: u256 :: u257 :: u258 :: u259 :: u260 :: u261 :: u262 :: u263 :: u264 :: u265 :: u266 :: u267 :: u268 :: u269 :: u270 :: u271 :: u272 :: u273 :: u274 :: u275 :: u276 :: u277 :: u278 :: u279 :: u280 :: u281 :: u282 :: u283 :: u284 :: u285 :: u286 :: u287 :: u288 :: u289 :: u290 :: u291 :: u292 :: u293 :: u294 :: u295 :: u296 :: u297 :: u298 :: u299 :: u300 :: u301 :: u302 :: u303 :: u304 :: u305 :: u306 :: u307 :: u308 :: u309 :: u310 :: u311 :: u312 :: u313 :: u314 :: u315 :: u316 :: u317 :: u318 :: u319 :: u320 :: u321 :: u322 :: u323 :: u324 :: u325 :: u326 :: u327 :: u328 :: u329 :: u330 :: u331 :: u332 :: u333 :: u334 :: u335 :: u336 :: u337 :: u338 :: u339 :: u340 :: u341 :: u342 :: u343 :: u344 :: u345 :: u346 :: u347 :: u348 :: u349 :: u350 :: u351 :: u352 :: u353 :: u354 :: u355 :: u356 :: u357 :: u358 :: u359 :: u360 :: u361 :: u362 :: u363 :: u364 :: u365 :: u366 :: u367 :: []), []⟩ wx) :
    Code.wp Yba.prog ((loopsOf (Yba.f4.body.getD .skip)).getD 1 .skip) (exitOnly 2 E) ⟨List.toArray (c0 :: c1 :: c2 :: c3 :: c4 :: (Value.pointer (some ⟨c.sb, 0, none⟩)) :: (Value.pointer (some ⟨pb, 0, none⟩)) :: (Value.pointer (some ⟨lb, 0, none⟩)) :: (Value.slice none 0 0) :: (Value.pointer (some ⟨tb, 0, none⟩)) :: c10 :: c11 :: c12 :: c13 :: c14 :: c15 :: c16 :: c17 :: c18 :: c19 :: c20 :: c21 :: c22 :: c23 :: c24 :: c25 :: c26 :: c27 :: c28 :: c29 :: c30 :: c31 :: c32 :: c33 :: c34 :: c35 :: c36 :: c37 :: c38 :: c39 :: c40 :: c41 :: c42 :: c43 :: c44 :: c45 :: c46 :: c47 :: c48 :: c49 :: c50 :: c51 :: c52 :: c53 :: c54 :: c55 :: c56 :: c57 :: c58 :: c59 :: c60 :: c61 :: c62 :: c63 :: c64 :: c65 :: c66 :: c67 :: c68 :: c69 :: c70 :: c71 :: c72 :: c73 :: c74 :: c75 :: c76 :: c77 :: c78 :: c79 :: (Value.slice a0 n cap) :: (Value.int .i64 n) :: (Value.int .i64 0) :: c83 :: c84 :: c85 :: c86 :: c87 :: c88 :: c89 :: c90 :: c91 :: c92 :: c93 :: c94 :: c95 :: c96 :: c97 :: c98 :: c99 :: c100 :: c101 :: c102 :: c103 :: c104 :: c105 :: c106 :: c107 :: c108 :: c109 :: c110 :: c111 :: c112 :: c113 :: c114 :: c115 :: c116 :: c117 :: c118 :: c119 :: c120 :: c121 :: c122 :: c123 :: c124 :: c125 :: c126 :: c127 :: c128 :: c129 :: c130 :: c131 :: c132 :: c133 :: c134 :: c135 :: c136 :: c137 :: c138 :: c139 :: c140 :: c141 :: c142 :: c143 :: c144 :: c145 :: c146 :: c147 :: c148 :: c149 :: c150 :: c151 :: c152 :: c153 :: c154 :: c155 :: c156 :: c157 :: c158 :: c159 :: c160 :: c161 :: c162 :: c163 :: c164 :: c165 :: c166 :: c167 :: c168 :: c169 :: c170 :: c171 :: c172 :: c173 :: c174 :: c175 :: c176 :: c177 :: c178 :: c179 :: c180 :: c181 :: c182 :: c183 :: c184 :: c185 :: c186 :: c187 :: c188 :: c189 :: c190 :: c191 :: c192 :: c193 :: c194 :: c195 :: c196 :: c197 :: c198 :: c199 :: c200 :: c201 :: c202 :: c203 :: c204 :: c205 :: c206 :: c207 :: c208 :: c209 :: c210 :: c211 :: c212 :: c213 :: c214 :: c215 :: c216 :: c217 :: c218 :: c219 :: c220 :: c221 :: c222 :: c223 :: c224 :: c225 :: c226 :: c227 :: c228 :: c229 :: c230 :: c231 :: c232 :: c233 :: c234 :: c235 :: c236 :: c237 :: c238 :: c239 :: c240 :: c241 :: c242 :: c243 :: c244 :: c245 :: c246 :: c247 :: c248 :: c249 :: c250 :: c251 :: c252 :: c253 :: c254 :: c255 :: c256 :: c257 :: c258 :: c259 :: c260 :: c261 :: c262 :: c263 :: c264 :: c265 :: c266 :: c267 :: c268 :: c269 :: c270 :: c271 :: c272 :: c273 :: c274 :: c275 :: c276 :: c277 :: c278 :: c279 :: c280 :: c281 :: c282 :: c283 :: c284 :: c285 :: c286 :: c287 :: c288 :: c289 :: c290 :: c291 :: c292 :: c293 :: c294 :: c295 :: c296 :: c297 :: c298 :: c299 :: c300 :: c301 :: c302 :: c303 :: c304 :: c305 :: c306 :: c307 :: c308 :: c309 :: c310 :: c311 :: c312 :: c313 :: c314 :: c315 :: c316 :: c317 :: c318 :: c319 :: c320 :: c321 :: c322 :: c323 :: c324 :: c325 :: c326 :: c327 :: c328 :: c329 :: c330 :: c331 :: c332 :: c333 :: c334 :: c335 :: c336 :: c337 :: c338 :: c339 :: c340 :: c341 :: c342 :: c343 :: c344 :: c345 :: c346 :: c347 :: c348 :: c349 :: c350 :: c351 :: c352 :: c353 :: c354 :: c355 :: c356 :: c357 :: c358 :: c359 :: c360 :: c361 :: c362 :: c363 :: c364 :: c365 :: c366 :: c367 :: []), []⟩ ws := by
  conv => arg 2; whnf
  go_loopw [8, 82] (fun v a wr => ∃ (i : Nat) (m : Mdl), i ≤ n ∧ a = .int .i64 i ∧ SR c wr m ∧ AR w pb lb tb m v wr ∧ m.log.length ≤ 256 * i) (fun _ a _ => n - (intOf a).toNat)
  case atStart => exact ⟨0, m0, Nat.zero_le _, rfl, hs0, ha0, by simp [m0]⟩
  case round =>
    clear hs0 ha0
    obtain ⟨i, m, hi, rfl, hs, ha, hlen⟩ := hrel
    by_cases hlt : i < n
    · clear hexit
      obtain ⟨ab, ao, rfl, hab, hcell⟩ := H.head i hlt
      have q0 : wr.cell? ⟨ab, ao + i * 4, none⟩ = some (.slice (A i 0) (X i 0).length (C i 0)) := (fr_cell ha.fr (p := ⟨ab, ao + i * 4, none⟩) hab (by simp; omega)).trans (hcell 0 (by omega))
      have q1 : wr.cell? ⟨ab, ao + i * 4 + 1, none⟩ = some (.slice (A i 1) (X i 1).length (C i 1)) := (fr_cell ha.fr (p := ⟨ab, ao + i * 4 + 1, none⟩) hab (by simp; omega)).trans (hcell 1 (by omega))
      have q2 : wr.cell? ⟨ab, ao + i * 4 + 2, none⟩ = some (.slice (A i 2) (X i 2).length (C i 2)) := (fr_cell ha.fr (p := ⟨ab, ao + i * 4 + 2, none⟩) hab (by simp; omega)).trans (hcell 2 (by omega))
      have q3 : wr.cell? ⟨ab, ao + i * 4 + 3, none⟩ = some (.slice (A i 3) (X i 3).length (C i 3)) := (fr_cell ha.fr (p := ⟨ab, ao + i * 4 + 3, none⟩) hab (by simp; omega)).trans (hcell 3 (by omega))
      have r0 := (H.rows i hlt 0 (by omega)).fr ha.fr (fun _ s => s)
      have r1 := (H.rows i hlt 1 (by omega)).fr ha.fr (fun _ s => s)
      have r2 := (H.rows i hlt 2 (by omega)).fr ha.fr (fun _ s => s)
      have r3 := (H.rows i hlt 3 (by omega)).fr ha.fr (fun _ s => s)
      have l0 := hL i hlt 0 (by omega)
      have l1 := hL i hlt 1 (by omega)
      have l2 := hL i hlt 2 (by omega)
      have l3 := hL i hlt 3 (by omega)
      have hb := ha.fr.size
      generalize X i 0 = X0 at *
      generalize X i 1 = X1 at *
      generalize X i 2 = X2 at *
      generalize X i 3 = X3 at *
      generalize A i 0 = A0 at *
      generalize A i 1 = A1 at *
      generalize A i 2 = A2 at *
      generalize A i 3 = A3 at *
      generalize C i 0 = C0 at *
      generalize C i 1 = C1 at *
      generalize C i 2 = C2 at *
      generalize C i 3 = C3 at *
      clear hcell H hL
      go_wp2
      obtain ⟨w2, hw2⟩ : ∃ w2 : World, w2 = (wr.alloc (.cells #[.slice A0 X0.length C0, .slice A1 X1.length C1, .slice A2 X2.length C2, .slice A3 X3.length C3] 37)).alloc (.cells #[.slice none 0 0, .slice none 0 0, .slice none 0 0, .slice none 0 0] 48) := ⟨_, rfl⟩
      have hF2 : Fr (fun _ => False) wr w2 := by rw [hw2]; exact ((Fr.refl _ wr).alloc _).alloc _
      have hst : Blk w2 wr.heap.size #[.slice A0 X0.length C0, .slice A1 X1.length C1, .slice A2 X2.length C2, .slice A3 X3.length C3] 37 := by rw [hw2]; exact (Blk.new wr _ 37 _ rfl).alloc _
      have hbb : Blk w2 (wr.heap.size + 1) #[.slice none 0 0, .slice none 0 0, .slice none 0 0, .slice none 0 0] 48 := by rw [hw2]; exact Blk.new _ _ 48 _ (by simp)
      have hBb : w.heap.size ≤ wr.heap.size + 1 := by omega
      rw [← hw2]
      clear hw2 q0 q1 q2 q3
      have z2 := hF2.size
      refine wp_exitOnly (lp3 (r0.fr hF2 (fun _ s => s.elim)) l0 hbb hBb _ ?_)
      intros
      rename_i hp3
      rename World => wA
      obtain ⟨v1, hb1, o1, hf1⟩ := hp3
      have hFA := bt_old hF2 (Nat.le_succ _) hf1
      have hstA := bt_blk hst hbb hf1
      have zA := hF2.size
      clear hst hbb
      have k1 : wA.cell? ⟨wr.heap.size, 1, none⟩ = some (.slice A1 X1.length C1) := (hstA.cell 1).trans rfl
      go_wp2
      clear k1
      refine wp_exitOnly (lp4 (r1.fr hFA (fun _ s => s.elim)) l1 hb1 hBb _ ?_)
      intros
      rename_i hp4
      rename World => wB
      obtain ⟨v2, hb2, o2, hf2⟩ := hp4
      have hFB := bt_old hFA (Nat.le_succ _) hf2
      have hstB := bt_blk hstA hb1 hf2
      have o1B := bt_own o1 hb1 (by decide) hf2
      have zB := hFA.size
      clear hstA hb1 o1
      have k1 : wB.cell? ⟨wr.heap.size, 2, none⟩ = some (.slice A2 X2.length C2) := (hstB.cell 2).trans rfl
      go_wp2
      clear k1
      refine wp_exitOnly (lp5 (r2.fr hFB (fun _ s => s.elim)) l2 hb2 hBb _ ?_)
      intros
      rename_i hp5
      rename World => wC
      obtain ⟨v3, hb3, o3, hf3⟩ := hp5
      have hFC := bt_old hFB (Nat.le_succ _) hf3
      have hstC := bt_blk hstB hb2 hf3
      have o1C := bt_own o1B hb2 (by decide) hf3
      have o2C := bt_own o2 hb2 (by decide) hf3
      have zC := hFB.size
      clear hstB hb2 o1B o2
      have k1 : wC.cell? ⟨wr.heap.size, 3, none⟩ = some (.slice A3 X3.length C3) := (hstC.cell 3).trans rfl
      go_wp2
      clear k1
      refine wp_exitOnly (lp6 (r3.fr hFC (fun _ s => s.elim)) l3 hb3 hBb _ ?_)
      intros
      rename_i hp6
      rename World => wD
      obtain ⟨v4, hb4, o4, hf4⟩ := hp6
      have hFD := bt_old hFC (Nat.le_succ _) hf4
      have hstD := bt_blk hstC hb3 hf4
      have o1D := ownsRow_mono (bt_own o1C hb3 (by decide) hf4) (show w.heap.size ≤ w2.heap.size by omega)
      have o2D := ownsRow_mono (bt_own o2C hb3 (by decide) hf4) (show w.heap.size ≤ wA.heap.size by omega)
      have o3D := ownsRow_mono (bt_own o3 hb3 (by decide) hf4) (show w.heap.size ≤ wB.heap.size by omega)
      have o4D := ownsRow_mono o4 (show w.heap.size ≤ wC.heap.size by have := hFC.size; omega)
      clear hstC hb3 o1C o2C o3 o4 hF2 hFA hFB hFC hf1 hf2 hf3 hf4
      have hsD := hs.fr0 hFD
      have haD := ha.fr0 hFD
      have HA := apply_any hsD o1D o2D o3D o4D (by omega) l0 l1 l2 l3
      rw [hc] at HA
      clear o1D o2D o3D o4D hsD hs ha
      have d0 : wD.cell? ⟨wr.heap.size + 1, 0, none⟩ = some v1 := (hb4.cell 0).trans rfl
      have d1 : wD.cell? ⟨wr.heap.size + 1, 1, none⟩ = some v2 := (hb4.cell 1).trans rfl
      have d2 : wD.cell? ⟨wr.heap.size + 1, 2, none⟩ = some v3 := (hb4.cell 2).trans rfl
      have d3 : wD.cell? ⟨wr.heap.size + 1, 3, none⟩ = some v4 := (hb4.cell 3).trans rfl
      clear hb4
      go_wp2_with (go_at_call 11; refine HA.mono ?_; rintro r we ⟨rfl, hse, hft⟩; have hstE := hft.blk hstD (by decide) (by decide) (by decide); have k1 : we.cell? ⟨wr.heap.size, 0, none⟩ = some (.slice A0 X0.length C0) := (hstE.cell 0).trans rfl)
      have hae := haD.ft hft
      have rf : ∀ {A X}, BRow w.heap.size wr A X → BRow w.heap.size we A X := fun h => (h.fr hFD (fun _ s => s.elim)).fr hft (fun _ s => s.1)
      have q0 := rf r0
      have q1 := rf r1
      have q2 := rf r2
      have q3 := rf r3
      have hze : w.heap.size ≤ we.heap.size := by have := hFD.size; have := hft.size; omega
      clear HA d0 d1 d2 d3 haD hFD hstD hft rf r0 r1 r2 r3 k1
      refine wp_exitOnly (lp7 q0 l0 hae.pres hae.plac hae.log hae.ge.1 hae.ge.2.1 (by omega) hze _ ?_)
      intros
      rename_i hp7
      rename World => wf
      have haf := ar7 hae hp7
      have hsf := sr7 hse hae.pres hae.plac hp7.2.2.2
      have hstF : Blk wf wr.heap.size #[.slice A0 X0.length C0, .slice A1 X1.length C1, .slice A2 X2.length C2, .slice A3 X3.length C3] 37 := hp7.2.2.2.blk hstE (by
        rintro (e | e | ⟨_, cur, e⟩)
        · exact blk_ne hstE hae.pres (by decide) e
        · exact blk_ne hstE hae.plac (by decide) e
        · exact blk_ne hstE e (by decide) rfl)
      have q1f := q1.fr hp7.2.2.2 (T7_ge hae.ge.1 hae.ge.2.1)
      have q2f := q2.fr hp7.2.2.2 (T7_ge hae.ge.1 hae.ge.2.1)
      have q3f := q3.fr hp7.2.2.2 (T7_ge hae.ge.1 hae.ge.2.1)
      have hlen1 := mW_len X0 m
      clear hp7 hae hse hstE q0 q1 q2 q3 hze
      obtain ⟨ao8, cp8, hu8, _⟩ := own_shape haf.log
      subst hu8
      have k1 : wf.cell? ⟨wr.heap.size, 1, none⟩ = some (.slice A1 X1.length C1) := (hstF.cell 1).trans rfl
      go_wp2
      clear k1
      refine wp_exitOnly (lp8 q1f l1 haf.pres haf.ge.1 _ ?_)
      intros
      rename_i hp8
      rename World => wg
      have hag := ar8 haf hp8
      have hsg := sr_blk hsf haf.pres (by decide) (by decide) (by decide) hp8.2
      have hstG := hp8.2.blk hstF (fun e => blk_ne hstF haf.pres (by decide) e)
      have q2g := q2f.fr hp8.2 (fun k e => by rw [e]; exact haf.ge.1)
      have q3g := q3f.fr hp8.2 (fun k e => by rw [e]; exact haf.ge.1)
      clear hp8 haf hsf hstF q1f q2f q3f
      have k1 : wg.cell? ⟨wr.heap.size, 2, none⟩ = some (.slice A2 X2.length C2) := (hstG.cell 2).trans rfl
      go_wp2
      clear k1
      refine wp_exitOnly (lp9 q2g l2 hag.att hag.ge.2.2 _ ?_)
      intros
      rename_i hp9
      rename World => wh
      have hah := ar9 hag hp9
      have hsh := sr_blk hsg hag.att (by decide) (by decide) (by decide) hp9.2
      have hstH := hp9.2.blk hstG (fun e => blk_ne hstG hag.att (by decide) e)
      have q3h := q3g.fr hp9.2 (fun k e => by rw [e]; exact hag.ge.2.2)
      clear hp9 hag hsg hstG q2g q3g
      have k1 : wh.cell? ⟨wr.heap.size, 3, none⟩ = some (.slice A3 X3.length C3) := (hstH.cell 3).trans rfl
      go_wp2
      clear k1
      refine wp_exitOnly (lp10 q3h l3 hah.att hah.ge.2.2 _ ?_)
      intros
      rename_i hp10
      rename World => wi
      have hai := ar10 hah hp10
      have hsi := sr_blk hsh hah.att (by decide) (by decide) (by decide) hp10.2
      have hlenM : (mDA (mWA (mD (mW m X0) X1) X2) X3).log = (mW m X0).log := by rw [mDA_log, mWA_log, mD_log]
      rw [← hlenM] at hlen1 hai ⊢
      clear hp10 hah hsh hstH q3h hlenM
      generalize mDA (mWA (mD (mW m X0) X1) X2) X3 = M at *
      obtain ⟨s5, s3⟩ := sr_cells hsi
      have hML : M.log.length ≤ 256 * (i + 1) := by omega
      go_wp2
      clear s5 s3
      refine wp_exitOnly (lp11 hsi hai.pres _ ?_)
      intros
      rename_i hp11
      rename World => wj
      have hsj := hsi.fr0 hp11
      have haj := hai.fr0 hp11
      clear hp11 hsi hai
      go_wp2_with (go_at_call 13; refine (sr_len hsj).mono ?_; rintro r w' ⟨rfl, hw⟩; obtain rfl := hw)
      refine wp_exitOnly (lp12 hsj haj.att _ ?_)
      intros
      rename_i hp12
      rename World => wk
      have hsk := hsj.fr0 hp12
      have hak := haj.fr0 hp12
      clear hp12 hsj haj
      go_wp2_with (go_at_call 14; refine (sr_att hsk).mono ?_; rintro r w' ⟨rfl, hw⟩; obtain rfl := hw)
      refine wp_exitOnly (lp13 hsk hak.pres hak.plac hak.log (by omega) _ ?_)
      intros
      rename_i hp13
      rename World => wl
      have hsl := hsk.fr0 hp13
      have hal := hak.fr0 hp13
      clear hp13 hsk hak
      go_wp2
      go_roundw
      case rel => exact ⟨i + 1, M, by omega, by go_num, hsl, hal, hML⟩
      case measure => simp [intOf]; omega
    · have hii : i = n := by omega
      subst hii
      go_wp2
      exact ⟨rfl, hexit _ _ _ _ _ _ _ _ _ _ _ _ _ _ _ _ _ _ _ _ _ _ _ _ _ _ _ _ _ _ _ _ _ _ _ _ _ _ _ _ _ _ _ _ _ _ _ _ _ _ _ _ _ _ _ _ _ _ _ _ _ _ _ _ _ _ _ _ _ _ _ _ _ _ _ _ _ _ _ _ _ _ _ _ _ _ _ _ _ _ _ _ _ _ _ _ _ _ _ _ _ _ _ _ _ _ _ _ _ _ _ _ _ _ _ _ _ _ _ _ _ _ _ _ _ _ _ _ _ _ _ _ _ _ _ _ _ _ _ _ _ _ _ _ _ _ _ _ _ _ _ _ _ _ _ _ _ _ _ _ _ _ _ _ _ _ _ _ _ _ _ _ _ _ _ _ _ _ _ _ _ _ _ _ _ _ _ _ _ _ _ _ _ _ _ _ _ _ _ _ _ _ _ _ _ _ _ _ _ _ _ _ _ _ _ _ _ _ _ _ _ _ _ _ _ _ _ _ _ _ _ _ _ _ _ _ _ _ _ _ _ _ _ _ _ _ _ _ _ _ _ _ _ _ _ _ _ _ _ _ _ _ _ _ _ _ _ _ _ _ _ _ _ _ _ _ _ _ _ _ _ _ _ _ _ _ _ _ _ _ _ _ _ _ _ _ _ _ _ _ _ _ _ _ _ _ _ _ _ _ _ _ _ _ _ _ _ ha.fr⟩

end Go.Proofs.Ybulkomi
