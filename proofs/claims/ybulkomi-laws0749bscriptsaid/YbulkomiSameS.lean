/-
  The law's comparison of one list of slots with what is expected (of subject sets).
-/
import Derived.Test.YbulkomiSame
namespace Go.Proofs.Ybulkomi.Sj
open Go.RowKit Go.Proofs.Ybulkomi

set_option maxHeartbeats 1000000 in
theorem same_nil {w : World} {ao : Option Addr} {cp : Nat} {aw : Option Addr} {cw : Nat} :
    Calls Yba.prog 18 #[.agg #[.slice ao 0 cp, .int .i64 0], .bool false, .slice aw 0 cw] w fun r w' => r = .returned (.bool true) ∧ Fr (fun _ => False) w w' := by
  go_enter Yba.func18, Yba.ntmps18
  go_wp2
  have hb84 : Blk ((w.alloc (.cells #[.slice ao 0 cp, .int .i64 0] 88)).alloc (.cells #[.string ⟨#[]⟩, .string ⟨#[]⟩, .string ⟨#[]⟩] 52)) w.heap.size #[.slice ao 0 cp, .int .i64 0] 88 := (Blk.new w _ 88 _ rfl).alloc _
  have hf1 : Fr (fun _ => False) w ((w.alloc (.cells #[.slice ao 0 cp, .int .i64 0] 88)).alloc (.cells #[.string ⟨#[]⟩, .string ⟨#[]⟩, .string ⟨#[]⟩] 52)) := ((Fr.refl _ w).alloc _).alloc _
  generalize hW1 : (w.alloc (.cells #[.slice ao 0 cp, .int .i64 0] 88)).alloc (.cells #[.string ⟨#[]⟩, .string ⟨#[]⟩, .string ⟨#[]⟩] 52) = w1 at *
  clear hW1
  go_loopw [8, 9, 20] (fun a b d wr => a = .int .i64 0 ∧ b = .int .i64 0 ∧ d = .int .i64 0 ∧ Fr (fun _ => False) w1 wr) (fun _ _ _ _ => 0)
  case atStart => exact ⟨rfl, rfl, rfl, Fr.refl _ _⟩
  case round =>
    obtain ⟨rfl, rfl, rfl, hf⟩ := hrel
    have k1 : wr.cell? ⟨w.heap.size, 1, none⟩ = some (.int .i64 0) := ((hf.blk hb84 (fun s => s)).cell 1).trans rfl
    go_wp2
    go_ret
    exact ⟨rfl, hf1.trans hf⟩

set_option maxHeartbeats 1000000 in
theorem same_pos {w : World} {T E : List Slot} {lo lo2 g cp gw cw : Nat} (ho : w.ownsRow lo 78 4 (.slice (some ⟨g, 0, none⟩) T.length cp) T.length (flat T)) (hlen : T.length ≤ 100000) (hw : w.ownsRow lo2 78 4 (.slice (some ⟨gw, 0, none⟩) E.length cw) E.length (flat E)) (hl : live T = E) (hpos : 0 < E.length) :
    Calls Yba.prog 18 #[.agg #[.slice (some ⟨g, 0, none⟩) T.length cp, .int .i64 (holes T : Nat)], .bool true, .slice (some ⟨gw, 0, none⟩) E.length cw] w fun r w' => r = .returned (.bool true) ∧ Fr (fun _ => False) w w' := by
  have hSl := (own_sz ho rfl).1.sl
  have hSw := (own_sz hw rfl).1.sl
  have hEl := live_le T
  rw [hl] at hEl
  clear ho hw
  go_enter Yba.func18, Yba.ntmps18
  go_wp2
  have hb84 : Blk ((w.alloc (.cells #[.slice (some ⟨g, 0, none⟩) T.length cp, .int .i64 (holes T : Nat)] 88)).alloc (.cells #[.string ⟨#[]⟩, .string ⟨#[]⟩, .string ⟨#[]⟩] 52)) w.heap.size #[.slice (some ⟨g, 0, none⟩) T.length cp, .int .i64 (holes T : Nat)] 88 := (Blk.new w _ 88 _ rfl).alloc _
  have hb50 : Blk ((w.alloc (.cells #[.slice (some ⟨g, 0, none⟩) T.length cp, .int .i64 (holes T : Nat)] 88)).alloc (.cells #[.string ⟨#[]⟩, .string ⟨#[]⟩, .string ⟨#[]⟩] 52)) (w.heap.size + 1) #[.string ⟨#[]⟩, .string ⟨#[]⟩, .string ⟨#[]⟩] 52 := Blk.new _ _ 52 _ (by simp)
  have hf1 : Fr (fun _ => False) w ((w.alloc (.cells #[.slice (some ⟨g, 0, none⟩) T.length cp, .int .i64 (holes T : Nat)] 88)).alloc (.cells #[.string ⟨#[]⟩, .string ⟨#[]⟩, .string ⟨#[]⟩] 52)) := ((Fr.refl _ w).alloc _).alloc _
  generalize hW1 : (w.alloc (.cells #[.slice (some ⟨g, 0, none⟩) T.length cp, .int .i64 (holes T : Nat)] 88)).alloc (.cells #[.string ⟨#[]⟩, .string ⟨#[]⟩, .string ⟨#[]⟩] 52) = w1 at *
  clear hW1
  go_loopw [8, 9, 20] (fun a b d wr => ∃ t : Nat, t ≤ T.length ∧ a = .int .i64 (holes (T.take t) : Nat) ∧ b = .int .i64 ((live (T.take t)).length : Nat) ∧ d = .int .i64 t ∧ Fr (fun _ => False) w1 wr) (fun _ _ d _ => T.length - (intOf d).toNat)
  case atStart => exact ⟨0, Nat.zero_le _, rfl, rfl, rfl, Fr.refl _ _⟩
  case round =>
    obtain ⟨t, ht, rfl, rfl, rfl, hf⟩ := hrel
    by_cases hlt : t < T.length
    · obtain ⟨x, y, z, hsl, c0, c1, c2, c3⟩ := ((hSl.fr hf1).fr hf).at hlt
      have d0 : ∀ o, (wr.alloc o).cell? ⟨w.heap.size + 1, 0, none⟩ = some (.string ⟨#[]⟩) := fun o => (((hf.blk hb50 (fun s => s)).alloc o).cell 0).trans rfl
      have d2 : ∀ o, (wr.alloc o).cell? ⟨w.heap.size + 1, 2, none⟩ = some (.string ⟨#[]⟩) := fun o => (((hf.blk hb50 (fun s => s)).alloc o).cell 2).trans rfl
      have d1 : ∀ o, (wr.alloc o).cell? ⟨w.heap.size + 1, 1, none⟩ = some (.string ⟨#[]⟩) := fun o => (((hf.blk hb50 (fun s => s)).alloc o).cell 1).trans rfl
      have hsub := sub_of_sl hsl
      have hht : holes (T.take t) ≤ t := by
        have := holes_live (T.take t)
        rw [List.length_take] at this
        omega
      have hls := live_succ T hlt
      have hhs := holes_succ T hlt
      by_cases hn : T[t].2.isSome = true
      · have hnn : T[t].2.isNone = false := by
          cases hx : T[t].2 with
          | none => rw [hx] at hn; simp at hn
          | some k => rfl
        obtain ⟨q1, q2⟩ := same_next hlt hn
        simp only [hl] at q1 q2
        obtain ⟨x', y', z', hsl', e0, e1, e2, e3⟩ := ((hSw.fr hf1).fr hf).at q1
        rw [q2, hsl] at hsl'
        rw [q2] at e0
        simp only [List.cons.injEq, Value.string.injEq, true_and, and_true] at hsl'
        obtain ⟨rfl, rfl, rfl⟩ := hsl'
        rw [hn] at hls
        rw [hnn] at hhs
        simp only [if_true, Bool.false_eq_true, if_false, Nat.add_zero] at hls hhs
        have hlsl : (live (T.take (t + 1))).length = (live (T.take t)).length + 1 := by rw [hls]; simp
        have E0 : ∀ o, _ := fun o => (((Fr.refl (fun _ => False) wr).alloc o))
        have e0' : ∀ o, (wr.alloc o).cell? ⟨gw, (live (T.take t)).length * 4, none⟩ = some (.int .u64 (T[t].1 : Nat)) := fun o => by
          obtain ⟨x2, y2, z2, s2, f0, f1, f2, f3⟩ := (((hSw.fr hf1).fr hf).fr (E0 o)).at q1
          rw [q2] at f0
          exact f0
        have e1' : ∀ o, (wr.alloc o).cell? ⟨gw, (live (T.take t)).length * 4 + 1, none⟩ = some (.string x) := fun o => by
          obtain ⟨x2, y2, z2, s2, f0, f1, f2, f3⟩ := (((hSw.fr hf1).fr hf).fr (E0 o)).at q1
          rw [q2, hsl] at s2
          simp only [List.cons.injEq, Value.string.injEq, true_and, and_true] at s2
          rw [s2.1]; exact f1
        have e2' : ∀ o, (wr.alloc o).cell? ⟨gw, (live (T.take t)).length * 4 + 2, none⟩ = some (.string y) := fun o => by
          obtain ⟨x2, y2, z2, s2, f0, f1, f2, f3⟩ := (((hSw.fr hf1).fr hf).fr (E0 o)).at q1
          rw [q2, hsl] at s2
          simp only [List.cons.injEq, Value.string.injEq, true_and, and_true] at s2
          rw [s2.2.1]; exact f2
        have e3' : ∀ o, (wr.alloc o).cell? ⟨gw, (live (T.take t)).length * 4 + 3, none⟩ = some (.string z) := fun o => by
          obtain ⟨x2, y2, z2, s2, f0, f1, f2, f3⟩ := (((hSw.fr hf1).fr hf).fr (E0 o)).at q1
          rw [q2, hsl] at s2
          simp only [List.cons.injEq, Value.string.injEq, true_and, and_true] at s2
          rw [s2.2.2]; exact f3
        clear e0 e1 e2 e3
        generalize hLi : (live (T.take t)).length = li at *
        cases hx : T[t].2 with
        | none => rw [hx] at hn; simp at hn
        | some k =>
          rw [hx] at hsub
          simp [subC] at hsub
          obtain ⟨rfl, rfl, rfl⟩ := hsub
          have hne : userS.toList = [117, 115, 101, 114] := by kernel_rfl
          generalize T[t].1 = pl at *
          generalize bidS (k / 4 % 2) = s4 at *
          clear hsl hn hnn hx
          have hge : ¬ ((E.length : Int) ≤ (li : Int)) := by omega
          go_wp2_with fail
          go_quiet (fail)
          go_wp2
          go_roundw
          case rel => exact ⟨t + 1, by omega, by rw [hhs], by rw [hlsl]; go_num, by go_num, (hf.alloc _).drewN _⟩
          case measure => simp [intOf]; omega
      · have hx : T[t].2 = none := by
          cases hx : T[t].2 with
          | none => rfl
          | some k => rw [hx] at hn; simp at hn
        rw [hx] at hsub hls hhs
        simp [subC] at hsub
        obtain ⟨rfl, rfl, rfl⟩ := hsub
        simp only [Option.isNone_none, Option.isSome_none, reduceIte, Bool.false_eq_true, List.append_nil] at hls hhs
        generalize T[t].1 = pl at *
        clear hsl hn hx
        go_wp2
        go_roundw
        case rel => exact ⟨t + 1, by omega, by rw [hhs]; go_num, by rw [hls], by go_num, (hf.alloc _)⟩
        case measure => simp [intOf]; omega
    · have htt : t = T.length := by omega
      subst htt
      have k1 : wr.cell? ⟨w.heap.size, 1, none⟩ = some (.int .i64 (holes T : Nat)) := ((hf.blk hb84 (fun s => s)).cell 1).trans rfl
      have hlE : (live (T.take T.length)).length = E.length := by rw [List.take_length, hl]
      have hhE : holes (T.take T.length) = holes T := by rw [List.take_length]
      go_wp2
      go_ret
      exact ⟨rfl, hf1.trans hf⟩

/-- .. whole -/
theorem same_any {w : World} {T E : List Slot} {lo lo2 cp : Nat} {ao : Option Addr} {vw : Value} (ho : w.ownsRow lo 78 4 (.slice ao T.length cp) T.length (flat T)) (hlen : T.length ≤ 100000) (hw : w.ownsRow lo2 78 4 vw E.length (flat E)) (hl : live T = E) (hne : T ≠ [] → E ≠ []) {b : Bool} (hb : b = decide (T ≠ [])) :
    Calls Yba.prog 18 #[.agg #[.slice ao T.length cp, .int .i64 (holes T : Nat)], .bool b, vw] w fun r w' => r = .returned (.bool true) ∧ Fr (fun _ => False) w w' := by
  subst hb
  obtain ⟨aw, cw, rfl, hgw⟩ := own_shape hw
  by_cases hT : T = []
  · subst hT
    have hE : E = [] := by rw [← hl]; rfl
    subst hE
    exact same_nil
  · have hE := List.length_pos_iff.2 (hne hT)
    have hTp := List.length_pos_iff.2 hT
    obtain ⟨gw, rfl, _⟩ := hgw hE
    obtain ⟨ao', c', e, hg⟩ := own_shape ho
    simp at e
    obtain ⟨rfl, rfl⟩ := e
    obtain ⟨g, rfl, _⟩ := hg hTp
    rw [decide_eq_true hT]
    exact same_pos ho hlen hw hl hE

end Go.Proofs.Ybulkomi.Sj
