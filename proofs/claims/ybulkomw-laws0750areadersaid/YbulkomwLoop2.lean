/-
  The second loop of zzs0750acheck (it builds the pending lines), as a theorem of its own: the frame's other slots are letters.
-/
import Derived.Test.YbulkomwLoop3
namespace Go.Proofs.Ybulkomw
open Go.RowKit

set_option maxHeartbeats 4000000 in
set_option maxRecDepth 100000 in
theorem loop2 {a0 : Option Addr} {n cap ab ao : Nat} {A : Nat → Option Addr} {L C rb ro : Nat → Nat} {I : Nat → Nat → Inp} {w : World} (H : Input w a0 n ab ao A L C rb ro I)
    (hn : n ≤ 1024) (hL1 : ∀ r, r < n → L r ≤ 1024) {ws : World} (hB0 : Build w n L I 0 ws)
    {c0 c1 c2 c3 c4 c5 c6 c7 c8 c9 c10 c13 c14 c15 c16 c17 c18 c19 c20 c21 c22 c23 c24 c25 c26 c27 c28 c29 c30 c31 c32 c33 c34 c35 c36 c37 c38 c39 c40 c41 c42 c43 c44 c45 c46 c47 c48 c49 c50 c51 c52 c53 c54 c55 c56 c57 c58 c59 c60 c64 c65 c66 c67 c68 c69 c70 c71 c72 c73 c74 c75 c76 c77 c78 c79 c80 c81 c82 c83 c84 c85 c86 c87 c88 c89 c90 c91 c92 c93 c94 c95 c96 c97 c98 c99 c100 c101 c102 c103 c104 c105 c106 c107 c108 c109 c110 c111 c112 c113 c114 c115 c116 c117 c118 c119 c120 c121 c122 c123 c124 c125 c126 c127 c128 c129 c130 c131 c132 c133 c134 c135 c136 c137 c138 c139 c140 c141 c142 c143 c144 c145 c146 c147 c148 c149 c150 c151 c152 c153 c154 c155 c156 c157 c158 c159 c160 c161 c162 c163 c164 c165 c166 c167 c168 c169 c170 c171 c172 c173 c174 c175 c176 c177 c178 c179 c180 c181 c182 c183 c184 c185 c186 c187 c188 c189 c190 c191 c192 c193 c194 c195 c196 c197 c198 c199 c200 c201 c202 c203 c204 c205 c206 c207 c208 c209 c210 c211 c212 c213 c214 c215 c216 c217 c218 c219 c220 c221 c222 c223 c224 c225 c226 c227 c228 c229 c230 c231 c232 c233 c234 c235 c236 c237 c238 c239 c240 c241 c242 c243 c244 c245 c246 c247 c248 c249 c250 : Value} (E : Act → World → Prop)
    (hexit : ∀ (u13 u14 u15 u16 u17 u63 u64 u65 u66 u67 u68 u69 u70 u71 u72 u73 u74 u75 u76 u77 u78 u79 u80 u81 u82 u83 u84 u85 u86 u87 u88 u89 u90 u91 u92 u93 u94 u95 u96 u97 u98 u99 u100 u101 u102 u103 u104 u105 : Value) (wx : World), Build w n L I n wx → E ⟨List.toArray (c0 :: c1 :: c2 :: c3 :: c4 :: c5 :: c6 :: c7 :: c8 :: c9 :: c10 :: (Value.pointer (some ⟨w.heap.size + 1 + 1 + 1 + 1 + 1, 0, none⟩)) :: (Value.slice (some ⟨w.heap.size + 1 + 1 + 1 + 1 + 1 + 1, 0, none⟩) n n) :: u13 :: u14 :: u15 :: u16 :: u17 :: c18 :: c19 :: c20 :: c21 :: c22 :: c23 :: c24 :: c25 :: c26 :: c27 :: c28 :: c29 :: c30 :: c31 :: c32 :: c33 :: c34 :: c35 :: c36 :: c37 :: c38 :: c39 :: c40 :: c41 :: c42 :: c43 :: c44 :: c45 :: c46 :: c47 :: c48 :: c49 :: c50 :: c51 :: c52 :: c53 :: c54 :: c55 :: c56 :: c57 :: c58 :: c59 :: c60 :: (Value.slice a0 n cap) :: (Value.int .i64 n) :: u63 :: u64 :: u65 :: u66 :: u67 :: u68 :: u69 :: u70 :: u71 :: u72 :: u73 :: u74 :: u75 :: u76 :: u77 :: u78 :: u79 :: u80 :: u81 :: u82 :: u83 :: u84 :: u85 :: u86 :: u87 :: u88 :: u89 :: u90 :: u91 :: u92 :: u93 :: u94 :: u95 :: u96 :: u97 :: u98 :: u99 :: u100 :: u101 :: u102 :: u103 :: u104 :: u105 :: c106 :: c107 :: c108 :: c109 :: c110 :: c111 :: c112 :: c113 :: c114 :: c115 :: c116 :: c117 :: c118 :: c119 :: c120 :: c121 :: c122 :: c123 :: c124 :: c125 :: c126 :: c127 :: c128 :: c129 :: c130 :: c131 :: c132 :: c133 :: c134 :: c135 :: c136 :: c137 :: c138 :: c139 :: c140 :: c141 :: c142 :: c143 :: c144 :: c145 :: c146 :: c147 :: c148 :: c149 :: c150 :: c151 :: c152 :: c153 :: c154 :: c155 :: c156 :: c157 :: c158 :: c159 :: c160 :: c161 :: c162 :: c163 :: c164 :: c165 :: c166 :: c167 :: c168 :: c169 :: c170 :: c171 :: c172 :: c173 :: c174 :: c175 :: c176 :: c177 :: c178 :: c179 :: c180 :: c181 :: c182 :: c183 :: c184 :: c185 :: c186 :: c187 :: c188 :: c189 :: c190 :: c191 :: c192 :: c193 :: c194 :: c195 :: c196 :: c197 :: c198 :: c199 :: c200 :: c201 :: c202 :: c203 :: c204 :: c205 :: c206 :: c207 :: c208 :: c209 :: c210 :: c211 :: c212 :: c213 :: c214 :: c215 :: c216 :: c217 :: c218 :: c219 :: c220 :: c221 :: c222 :: c223 :: c224 :: c225 :: c226 :: c227 :: c228 :: c229 :: c230 :: c231 :: c232 :: c233 :: c234 :: c235 :: c236 :: c237 :: c238 :: c239 :: c240 :: c241 :: c242 :: c243 :: c244 :: c245 :: c246 :: c247 :: c248 :: c249 :: c250 :: []), []⟩ wx) :
    Code.wp Yba.prog ((loopsOf (Yba.f5.body.getD .skip)).getD 1 .skip) (exitOnly 2 E) ⟨List.toArray (c0 :: c1 :: c2 :: c3 :: c4 :: c5 :: c6 :: c7 :: c8 :: c9 :: c10 :: (Value.pointer (some ⟨w.heap.size + 1 + 1 + 1 + 1 + 1, 0, none⟩)) :: (Value.slice (some ⟨w.heap.size + 1 + 1 + 1 + 1 + 1 + 1, 0, none⟩) n n) :: c13 :: c14 :: c15 :: c16 :: c17 :: c18 :: c19 :: c20 :: c21 :: c22 :: c23 :: c24 :: c25 :: c26 :: c27 :: c28 :: c29 :: c30 :: c31 :: c32 :: c33 :: c34 :: c35 :: c36 :: c37 :: c38 :: c39 :: c40 :: c41 :: c42 :: c43 :: c44 :: c45 :: c46 :: c47 :: c48 :: c49 :: c50 :: c51 :: c52 :: c53 :: c54 :: c55 :: c56 :: c57 :: c58 :: c59 :: c60 :: (Value.slice a0 n cap) :: (Value.int .i64 n) :: (Value.int .i64 0) :: c64 :: c65 :: c66 :: c67 :: c68 :: c69 :: c70 :: c71 :: c72 :: c73 :: c74 :: c75 :: c76 :: c77 :: c78 :: c79 :: c80 :: c81 :: c82 :: c83 :: c84 :: c85 :: c86 :: c87 :: c88 :: c89 :: c90 :: c91 :: c92 :: c93 :: c94 :: c95 :: c96 :: c97 :: c98 :: c99 :: c100 :: c101 :: c102 :: c103 :: c104 :: c105 :: c106 :: c107 :: c108 :: c109 :: c110 :: c111 :: c112 :: c113 :: c114 :: c115 :: c116 :: c117 :: c118 :: c119 :: c120 :: c121 :: c122 :: c123 :: c124 :: c125 :: c126 :: c127 :: c128 :: c129 :: c130 :: c131 :: c132 :: c133 :: c134 :: c135 :: c136 :: c137 :: c138 :: c139 :: c140 :: c141 :: c142 :: c143 :: c144 :: c145 :: c146 :: c147 :: c148 :: c149 :: c150 :: c151 :: c152 :: c153 :: c154 :: c155 :: c156 :: c157 :: c158 :: c159 :: c160 :: c161 :: c162 :: c163 :: c164 :: c165 :: c166 :: c167 :: c168 :: c169 :: c170 :: c171 :: c172 :: c173 :: c174 :: c175 :: c176 :: c177 :: c178 :: c179 :: c180 :: c181 :: c182 :: c183 :: c184 :: c185 :: c186 :: c187 :: c188 :: c189 :: c190 :: c191 :: c192 :: c193 :: c194 :: c195 :: c196 :: c197 :: c198 :: c199 :: c200 :: c201 :: c202 :: c203 :: c204 :: c205 :: c206 :: c207 :: c208 :: c209 :: c210 :: c211 :: c212 :: c213 :: c214 :: c215 :: c216 :: c217 :: c218 :: c219 :: c220 :: c221 :: c222 :: c223 :: c224 :: c225 :: c226 :: c227 :: c228 :: c229 :: c230 :: c231 :: c232 :: c233 :: c234 :: c235 :: c236 :: c237 :: c238 :: c239 :: c240 :: c241 :: c242 :: c243 :: c244 :: c245 :: c246 :: c247 :: c248 :: c249 :: c250 :: []), []⟩ ws := by
  conv => arg 2; whnf
  go_loopw [63] (fun c wr => ∃ r : Nat, r ≤ n ∧ c = .int .i64 r ∧ Build w n L I r wr) (fun c _ => n - (intOf c).toNat)
  case atStart => exact ⟨0, Nat.zero_le _, rfl, hB0⟩
  case round =>
    clear hB0
    obtain ⟨r, hr, rfl, hB⟩ := hrel
    by_cases hrlt : r < n
    · clear hexit
      obtain ⟨e0, hab, hc0⟩ := H.head r hrlt
      have hc1 : wr.cell? ⟨ab, ao + r, none⟩ = some (.slice (A r) (L r) (C r)) := (hB.below.cell (p := ⟨ab, ao + r, none⟩) hab).trans hc0
      have hmk2 := make37 (L r) (hL1 r hrlt)
      have hlr := hL1 r hrlt
      have hsz := hB.size
      go_wp2
      have hI0 := inner_start hB
      clear hc1 hc0 hmk2 e0
      refine wp_exitOnly (loop3 H hrlt hlr hB hI0 _ ?_)
      intros
      rename_i hIn
      have hge := gp_ge (w.heap.size + 7) L r
      have hnext := build_step hB hrlt hIn
      rename World => wx
      obtain ⟨pc, hpc, hpcs, _⟩ := hB.pend
      have hp7 : wx.cell? ⟨w.heap.size + 1 + 1 + 1 + 1 + 1 + 1, r * 10 + 7, none⟩ = some (pc.getD (r * 10 + 7) undef) := by
        have := (hpc.below hIn.below (by omega)).cell (r * 10 + 7)
        rw [this, Array.getElem?_eq_getElem (by omega)]
        simp [show r * 10 + 7 < pc.size by omega]
      have hpf : wx.frozen? ⟨w.heap.size + 1 + 1 + 1 + 1 + 1 + 1, r * 10 + 7, none⟩ = false := (hpc.below hIn.below (by omega)).frozen _
      have HN : Hid (Build w n L I (r + 1) (wx.setCell ⟨w.heap.size + 6, r * 10 + 7, none⟩ (.slice (some ⟨gp (w.heap.size + 7) L r, 0, none⟩) (L r) (L r)))) := hnext
      clear hnext hIn hpc hpcs hsz
      go_wp2
      go_roundw
      case rel => exact ⟨r + 1, by omega, by go_num, HN.out⟩
      case measure => simp [intOf]; omega
    · have hrn : r = n := by omega
      subst hrn
      go_wp2
      exact ⟨rfl, hexit _ _ _ _ _ _ _ _ _ _ _ _ _ _ _ _ _ _ _ _ _ _ _ _ _ _ _ _ _ _ _ _ _ _ _ _ _ _ _ _ _ _ _ _ _ _ _ _ _ hB⟩

end Go.Proofs.Ybulkomw
