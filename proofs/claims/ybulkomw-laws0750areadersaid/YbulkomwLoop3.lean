/-
  The third loop of zzs0750acheck (it builds the parts of one line), as a theorem of its own: the frame's other slots are letters.
-/
import Derived.Test.YbulkomwInput
namespace Go.Proofs.Ybulkomw
open Go.RowKit

set_option maxHeartbeats 4000000 in
set_option maxRecDepth 100000 in
theorem loop3 {a0 : Option Addr} {n ab ao : Nat} {A : Nat → Option Addr} {L C rb ro : Nat → Nat} {I : Nat → Nat → Inp} {w : World} (H : Input w a0 n ab ao A L C rb ro I)
    {r : Nat} (hrlt : r < n) (hlr : L r ≤ 1024) {wo : World} (hB : Build w n L I r wo) {ws : World} (hI0 : Inner w L I r wo 0 ws)
    {c0 c1 c2 c3 c4 c5 c6 c7 c8 c9 c10 c12 c13 c14 c16 c17 c18 c19 c20 c21 c22 c23 c24 c25 c26 c27 c28 c29 c30 c31 c32 c33 c34 c35 c36 c37 c38 c39 c40 c41 c42 c43 c44 c45 c46 c47 c48 c49 c50 c51 c52 c53 c54 c55 c56 c57 c58 c59 c60 c61 c62 c63 c64 c65 c66 c67 c68 c69 c70 c74 c75 c76 c77 c78 c79 c80 c81 c82 c83 c84 c85 c86 c87 c88 c89 c90 c91 c92 c93 c94 c95 c96 c97 c98 c99 c100 c101 c102 c103 c104 c105 c106 c107 c108 c109 c110 c111 c112 c113 c114 c115 c116 c117 c118 c119 c120 c121 c122 c123 c124 c125 c126 c127 c128 c129 c130 c131 c132 c133 c134 c135 c136 c137 c138 c139 c140 c141 c142 c143 c144 c145 c146 c147 c148 c149 c150 c151 c152 c153 c154 c155 c156 c157 c158 c159 c160 c161 c162 c163 c164 c165 c166 c167 c168 c169 c170 c171 c172 c173 c174 c175 c176 c177 c178 c179 c180 c181 c182 c183 c184 c185 c186 c187 c188 c189 c190 c191 c192 c193 c194 c195 c196 c197 c198 c199 c200 c201 c202 c203 c204 c205 c206 c207 c208 c209 c210 c211 c212 c213 c214 c215 c216 c217 c218 c219 c220 c221 c222 c223 c224 c225 c226 c227 c228 c229 c230 c231 c232 c233 c234 c235 c236 c237 c238 c239 c240 c241 c242 c243 c244 c245 c246 c247 c248 c249 c250 : Value} (E : Act → World → Prop)
    (hexit : ∀ (u16 u17 u73 u74 u75 u76 u77 u78 u79 u80 u81 u82 u83 u84 u85 u86 u87 u88 u89 u90 u91 u92 u93 u94 u95 u96 u97 u98 u99 : Value) (wx : World), Inner w L I r wo (L r) wx → E ⟨List.toArray (c0 :: c1 :: c2 :: c3 :: c4 :: c5 :: c6 :: c7 :: c8 :: c9 :: c10 :: (Value.pointer (some ⟨w.heap.size + 1 + 1 + 1 + 1 + 1, 0, none⟩)) :: c12 :: c13 :: c14 :: (Value.slice (some ⟨gp (w.heap.size + 7) L r, 0, none⟩) (L r) (L r)) :: u16 :: u17 :: c18 :: c19 :: c20 :: c21 :: c22 :: c23 :: c24 :: c25 :: c26 :: c27 :: c28 :: c29 :: c30 :: c31 :: c32 :: c33 :: c34 :: c35 :: c36 :: c37 :: c38 :: c39 :: c40 :: c41 :: c42 :: c43 :: c44 :: c45 :: c46 :: c47 :: c48 :: c49 :: c50 :: c51 :: c52 :: c53 :: c54 :: c55 :: c56 :: c57 :: c58 :: c59 :: c60 :: c61 :: c62 :: c63 :: c64 :: c65 :: c66 :: c67 :: c68 :: c69 :: c70 :: (Value.slice (A r) (L r) (C r)) :: (Value.int .i64 (L r)) :: u73 :: u74 :: u75 :: u76 :: u77 :: u78 :: u79 :: u80 :: u81 :: u82 :: u83 :: u84 :: u85 :: u86 :: u87 :: u88 :: u89 :: u90 :: u91 :: u92 :: u93 :: u94 :: u95 :: u96 :: u97 :: u98 :: u99 :: c100 :: c101 :: c102 :: c103 :: c104 :: c105 :: c106 :: c107 :: c108 :: c109 :: c110 :: c111 :: c112 :: c113 :: c114 :: c115 :: c116 :: c117 :: c118 :: c119 :: c120 :: c121 :: c122 :: c123 :: c124 :: c125 :: c126 :: c127 :: c128 :: c129 :: c130 :: c131 :: c132 :: c133 :: c134 :: c135 :: c136 :: c137 :: c138 :: c139 :: c140 :: c141 :: c142 :: c143 :: c144 :: c145 :: c146 :: c147 :: c148 :: c149 :: c150 :: c151 :: c152 :: c153 :: c154 :: c155 :: c156 :: c157 :: c158 :: c159 :: c160 :: c161 :: c162 :: c163 :: c164 :: c165 :: c166 :: c167 :: c168 :: c169 :: c170 :: c171 :: c172 :: c173 :: c174 :: c175 :: c176 :: c177 :: c178 :: c179 :: c180 :: c181 :: c182 :: c183 :: c184 :: c185 :: c186 :: c187 :: c188 :: c189 :: c190 :: c191 :: c192 :: c193 :: c194 :: c195 :: c196 :: c197 :: c198 :: c199 :: c200 :: c201 :: c202 :: c203 :: c204 :: c205 :: c206 :: c207 :: c208 :: c209 :: c210 :: c211 :: c212 :: c213 :: c214 :: c215 :: c216 :: c217 :: c218 :: c219 :: c220 :: c221 :: c222 :: c223 :: c224 :: c225 :: c226 :: c227 :: c228 :: c229 :: c230 :: c231 :: c232 :: c233 :: c234 :: c235 :: c236 :: c237 :: c238 :: c239 :: c240 :: c241 :: c242 :: c243 :: c244 :: c245 :: c246 :: c247 :: c248 :: c249 :: c250 :: []), []⟩ wx) :
    Code.wp Yba.prog ((loopsOf (Yba.f5.body.getD .skip)).getD 2 .skip) (exitOnly 4 E) ⟨List.toArray (c0 :: c1 :: c2 :: c3 :: c4 :: c5 :: c6 :: c7 :: c8 :: c9 :: c10 :: (Value.pointer (some ⟨w.heap.size + 1 + 1 + 1 + 1 + 1, 0, none⟩)) :: c12 :: c13 :: c14 :: (Value.slice (some ⟨gp (w.heap.size + 7) L r, 0, none⟩) (L r) (L r)) :: c16 :: c17 :: c18 :: c19 :: c20 :: c21 :: c22 :: c23 :: c24 :: c25 :: c26 :: c27 :: c28 :: c29 :: c30 :: c31 :: c32 :: c33 :: c34 :: c35 :: c36 :: c37 :: c38 :: c39 :: c40 :: c41 :: c42 :: c43 :: c44 :: c45 :: c46 :: c47 :: c48 :: c49 :: c50 :: c51 :: c52 :: c53 :: c54 :: c55 :: c56 :: c57 :: c58 :: c59 :: c60 :: c61 :: c62 :: c63 :: c64 :: c65 :: c66 :: c67 :: c68 :: c69 :: c70 :: (Value.slice (A r) (L r) (C r)) :: (Value.int .i64 (L r)) :: (Value.int .i64 0) :: c74 :: c75 :: c76 :: c77 :: c78 :: c79 :: c80 :: c81 :: c82 :: c83 :: c84 :: c85 :: c86 :: c87 :: c88 :: c89 :: c90 :: c91 :: c92 :: c93 :: c94 :: c95 :: c96 :: c97 :: c98 :: c99 :: c100 :: c101 :: c102 :: c103 :: c104 :: c105 :: c106 :: c107 :: c108 :: c109 :: c110 :: c111 :: c112 :: c113 :: c114 :: c115 :: c116 :: c117 :: c118 :: c119 :: c120 :: c121 :: c122 :: c123 :: c124 :: c125 :: c126 :: c127 :: c128 :: c129 :: c130 :: c131 :: c132 :: c133 :: c134 :: c135 :: c136 :: c137 :: c138 :: c139 :: c140 :: c141 :: c142 :: c143 :: c144 :: c145 :: c146 :: c147 :: c148 :: c149 :: c150 :: c151 :: c152 :: c153 :: c154 :: c155 :: c156 :: c157 :: c158 :: c159 :: c160 :: c161 :: c162 :: c163 :: c164 :: c165 :: c166 :: c167 :: c168 :: c169 :: c170 :: c171 :: c172 :: c173 :: c174 :: c175 :: c176 :: c177 :: c178 :: c179 :: c180 :: c181 :: c182 :: c183 :: c184 :: c185 :: c186 :: c187 :: c188 :: c189 :: c190 :: c191 :: c192 :: c193 :: c194 :: c195 :: c196 :: c197 :: c198 :: c199 :: c200 :: c201 :: c202 :: c203 :: c204 :: c205 :: c206 :: c207 :: c208 :: c209 :: c210 :: c211 :: c212 :: c213 :: c214 :: c215 :: c216 :: c217 :: c218 :: c219 :: c220 :: c221 :: c222 :: c223 :: c224 :: c225 :: c226 :: c227 :: c228 :: c229 :: c230 :: c231 :: c232 :: c233 :: c234 :: c235 :: c236 :: c237 :: c238 :: c239 :: c240 :: c241 :: c242 :: c243 :: c244 :: c245 :: c246 :: c247 :: c248 :: c249 :: c250 :: []), []⟩ ws := by
  conv => arg 2; whnf
  go_loopw [73] (fun c wr => ∃ j : Nat, j ≤ L r ∧ c = .int .i64 j ∧ Inner w L I r wo j wr) (fun c _ => L r - (intOf c).toNat)
  case atStart => exact ⟨0, Nat.zero_le _, rfl, hI0⟩
  case round =>
    clear hI0
    obtain ⟨j, hj, rfl, hIn⟩ := hrel
    by_cases hjlt : j < L r
    · clear hexit
      obtain ⟨e1, hrb, x0, x1, x2, x3, x4, x5⟩ := H.elem r hrlt j hjlt
      obtain ⟨f0, f1⟩ := H.file r hrlt j hjlt
      have hge := gp_ge (w.heap.size + 7) L r
      have hbl : Below w.heap.size w wr := hB.below.trans (hIn.below.mono (by omega))
      have y0 := (hbl.cell (p := ⟨rb r, ro r + j * 6, none⟩) hrb).trans x0
      have y1 := (hbl.cell (p := ⟨rb r, ro r + j * 6 + 1, none⟩) hrb).trans x1
      have y2 := (hbl.cell (p := ⟨rb r, ro r + j * 6 + 2, none⟩) hrb).trans x2
      have y3 := (hbl.cell (p := ⟨rb r, ro r + j * 6 + 3, none⟩) hrb).trans x3
      have y4 := (hbl.cell (p := ⟨rb r, ro r + j * 6 + 4, none⟩) hrb).trans x4
      have y5 := (hbl.cell (p := ⟨rb r, ro r + j * 6 + 5, none⟩) hrb).trans x5
      have hfa : ∀ o, (wr.alloc o).cell? ⟨w.heap.size + 1 + 1 + 1 + 1 + 1, ((I r j).file % 5).toNat, none⟩ = some (.pointer (fad w.heap.size (I r j).kf)) := fun o => by
        have := ((hB.arr.below hIn.below (by omega)).alloc o).cell (I r j).kf
        rw [filesArr_at _ _ (I r j).kf_lt] at this
        exact this
      have hz := hIn.size
      have z0 := fun o => (hIn.row.alloc o).cell hjlt (q := 0) (by omega)
      have z1 := fun o => (hIn.row.alloc o).cell hjlt (q := 1) (by omega)
      have z2 := fun o => (hIn.row.alloc o).cell hjlt (q := 2) (by omega)
      have z3 := fun o => (hIn.row.alloc o).cell hjlt (q := 3) (by omega)
      have z4 := fun o => (hIn.row.alloc o).cell hjlt (q := 4) (by omega)
      have z5 := fun o => (hIn.row.alloc o).cell hjlt (q := 5) (by omega)
      have z6 := fun o => (hIn.row.alloc o).cell hjlt (q := 6) (by omega)
      have z7 := fun o => (hIn.row.alloc o).cell hjlt (q := 7) (by omega)
      have zf := fun o i => (hIn.row.alloc o).frozen i
      simp only [Nat.lt_irrefl, if_false, pcell, zeroPart, Nat.add_zero] at z0 z1 z2 z3 z4 z5 z6 z7
      have hstep := (inner_step hB hIn hjlt (.cells #[.bool (I r j).held, .int .u8 (I r j).file, .int .i64 (I r j).s, .int .i64 (I r j).e, .int .i64 (I r j).k, .int .i64 (I r j).n] 39) _ (Or.inl rfl) _ rfl).drew
      clear x0 x1 x2 x3 x4 x5
      go_wp2
      go_big_region
      go_wp2
      go_roundw
      case rel => exact ⟨j + 1, by omega, by go_num, hstep⟩
      case measure => simp [intOf]; omega
    · as_aux_lemma =>
        have hjL : j = L r := by omega
        subst hjL
        go_wp2
        exact ⟨rfl, hexit _ _ _ _ _ _ _ _ _ _ _ _ _ _ _ _ _ _ _ _ _ _ _ _ _ _ _ _ _ _ hIn⟩

end Go.Proofs.Ybulkomw
