/-
  zzs0751bstep, zzs0751beq.
-/
import Derived.Test.YbulkonkEv7
namespace Go.Proofs.Ybulkonk
open Go.RowKit Go.MuLone

/-- The law's items. -/
def It (w : World) (a0 : Option Addr) (n ab ao : Nat) (fi oi : Nat → Bool) : Prop :=
  ∀ i, i < n → a0 = some ⟨ab, ao, none⟩ ∧ ab < w.heap.size ∧ w.cell? ⟨ab, ao + i * 2, none⟩ = some (.bool (fi i)) ∧ w.cell? ⟨ab, ao + i * 2 + 1, none⟩ = some (.bool (oi i))

theorem It.below {w w' : World} {B : Nat} {a0 : Option Addr} {n ab ao : Nat} {fi oi : Nat → Bool} (h : It w a0 n ab ao fi oi) (hb : Below B w w') (hB : 0 < n → ab < B) : It w' a0 n ab ao fi oi := fun i hi => by
  obtain ⟨h1, h2, h3, h4⟩ := h i hi
  have := hB (by omega)
  exact ⟨h1, Nat.lt_of_lt_of_le h2 hb.size, (hb.cell (p := ⟨ab, ao + i * 2, none⟩) this).trans h3, (hb.cell (p := ⟨ab, ao + i * 2 + 1, none⟩) this).trans h4⟩
theorem It.lt {w : World} {a0 : Option Addr} {n ab ao : Nat} {fi oi : Nat → Bool} (h : It w a0 n ab ao fi oi) (hn : 0 < n) : ab < w.heap.size := (h 0 hn).2.1

/-- one item -/
def gst (F ok : Nat → Bool) (st : List Nat × Bool × Nat) (x : Nat) : List Nat × Bool × Nat :=
  if F x then st else if st.2.1 then (st.1 ++ [x], ok x, if ok x then st.2.2 else st.2.2 + 1) else (st.1, false, st.2.2 + 1)
def gsts (F ok : Nat → Bool) (base n : Nat) (st : List Nat × Bool × Nat) : List Nat × Bool × Nat := ((List.range n).map (base + ·)).foldl (gst F ok) st

theorem gsts_zero (F ok : Nat → Bool) (base : Nat) (st : List Nat × Bool × Nat) : gsts F ok base 0 st = st := rfl
theorem gsts_succ (F ok : Nat → Bool) (base n : Nat) (st : List Nat × Bool × Nat) : gsts F ok base (n + 1) st = gst F ok (gsts F ok base n st) (base + n) := by
  simp [gsts, List.range_succ, List.foldl_append]
theorem gsts_le (F ok : Nat → Bool) (base n : Nat) (st : List Nat × Bool × Nat) : (gsts F ok base n st).1.length ≤ st.1.length + n ∧ (gsts F ok base n st).2.2 ≤ st.2.2 + n := by
  induction n with
  | zero => exact ⟨Nat.le_refl _, Nat.le_refl _⟩
  | succ n ih =>
    rw [gsts_succ]
    unfold gst
    split
    · omega
    · split
      · simp only [List.length_append, List.length_singleton]
        refine ⟨by omega, ?_⟩
        split <;> omega
      · simp only
        omega

set_option maxHeartbeats 2000000 in
theorem bstep_any {F ok : Nat → Bool} {a0 : Option Addr} {n cap ab ao base : Nat} {fi oi : Nat → Bool} {w : World} (H : It w a0 n ab ao fi oi) (hF : ∀ i, i < n → F (base + i) = fi i) (hO : ∀ i, i < n → ok (base + i) = oi i) (hn : n ≤ 1024) (hbase : base ≤ 1024) {lo : Nat} (hlo : lo ≤ w.heap.size) (hab : 0 < n → ab < lo)
    {st : List Nat × Bool × Nat} {wv : Value} (hown : w.ownsRow lo 3 1 wv st.1.length (ints st.1)) (h1 : st.1.length ≤ 1024) (h2 : st.2.2 ≤ 1024) :
    Calls Yba.prog 16 #[.slice a0 n cap, .int .i64 base, wv, .bool st.2.1, .int .i64 st.2.2] w fun r w' => ∃ wv', r = .returned (.tuple #[wv', .bool (gsts F ok base n st).2.1, .int .i64 (gsts F ok base n st).2.2]) ∧
      w'.ownsRow lo 3 1 wv' (gsts F ok base n st).1.length (ints (gsts F ok base n st).1) ∧ Below lo w w' := by
  go_enter Yba.func16, Yba.ntmps16
  go_wp2
  go_loopw [2, 3, 4, 17] (fun a b d i wr => ∃ k : Nat, k ≤ n ∧ i = .int .i64 k ∧ b = .bool (gsts F ok base k st).2.1 ∧ d = .int .i64 (gsts F ok base k st).2.2 ∧ wr.ownsRow lo 3 1 a (gsts F ok base k st).1.length (ints (gsts F ok base k st).1) ∧ Below lo w wr) (fun _ _ _ i _ => n - (intOf i).toNat)
  case atStart => exact ⟨0, Nat.zero_le _, rfl, rfl, rfl, hown, Below.refl _ _⟩
  case round =>
    obtain ⟨k, hk, rfl, rfl, rfl, ho, hb⟩ := hrel
    have hle := gsts_le F ok base k st
    have hsz := hb.size
    clear hown
    by_cases hlt : k < n
    · obtain ⟨rfl, _, _, _⟩ := H k hlt
      obtain ⟨_, _, hc0, hc1⟩ := (H.below hb hab) k hlt
      have e1 := hF k hlt
      have e2 := hO k hlt
      have hs := gsts_succ F ok base k st
      have habl := hab (by omega)
      rw [← e1] at hc0
      rw [← e2] at hc1
      generalize hst : gsts F ok base k st = sk at *
      obtain ⟨wk, rk, lk⟩ := sk
      simp only at ho hle ⊢
      clear e1 e2 H hF hO
      have hba : ∀ o, Below lo w (wr.alloc o) := fun o => hb.alloc (by omega) o
      cases hf : F (base + k) with
      | true =>
        rw [hf] at hc0
        have hs' : gsts F ok base (k + 1) st = (wk, rk, lk) := by rw [hs]; simp [gst, hf]
        clear hs
        go_wp2
        go_roundw
        case rel => exact ⟨k + 1, by omega, by go_num, by rw [hs'], by rw [hs'], by rw [hs']; exact ho.alloc _, hba _⟩
        case measure => simp [intOf]; omega
      | false =>
        rw [hf] at hc0
        cases rk with
        | false =>
          have hs' : gsts F ok base (k + 1) st = (wk, false, lk + 1) := by rw [hs]; simp [gst, hf]
          clear hs
          go_wp2
          go_roundw
          case rel => exact ⟨k + 1, by omega, by go_num, by rw [hs'], by rw [hs']; go_num, by rw [hs']; exact ho.alloc _, hba _⟩
          case measure => simp [intOf]; omega
        | true =>
          have hs' : gsts F ok base (k + 1) st = (wk ++ [base + k], ok (base + k), if ok (base + k) then lk else lk + 1) := by rw [hs]; simp [gst, hf]
          clear hs
          go_wp2_with (at_builtin; refine wpList_append1 _ rfl _ _ 48 rfl Yba.underlying48 info3 rfl rfl ((ho.alloc _).alloc _) ?c1 (ad := ⟨wr.heap.size + 1, 0, none⟩) (c := 1) rfl (y := .int .i64 ((base : Int) + k)) ?c2 rfl ?c3 ?c4 ?_)
          case c1 => omega
          case c3 => unfold maxLen; omega
          case c4 => omega
          intro g2 cap2 w2 hA
          have hnew : Blk w2 wr.heap.size #[.bool false, .bool (ok (base + k))] 53 := by
            refine hA.blk ((Blk.new wr _ 53 _ rfl).alloc _) (fun e => ?_)
            have := (ho.lt _ e).2
            omega
          have m1 := hnew.cell 1
          simp at m1
          have ho2 : w2.ownsRow lo 3 1 (.slice (some ⟨g2, 0, none⟩) (wk.length + 1) cap2) (wk ++ [base + k]).length (ints (wk ++ [base + k])) := by
            have := hA.own
            simpa [ints] using this
          have hb2 : Below lo w w2 := by
            have hsg := hA.grown.size
            simp at hsg
            refine ⟨hA.grown.os.trans hb.os, hA.grown.tape.trans hb.tape, hA.grown.output.trans hb.output, by omega, fun q hq => ?_⟩
            rw [hA.grown.block q (by simp; omega) (fun e => by have := (ho.lt q e.symm).1; omega), Below.heap_alloc _ _ _ (by simp; omega), Below.heap_alloc _ _ _ (by omega)]
            exact hb.block q hq
          clear hA hnew ho hb hba
          cases hok : ok (base + k) with
          | true =>
            rw [hok] at m1 hs'
            simp only [if_true] at hs'
            go_wp2
            go_roundw
            case rel => exact ⟨k + 1, by omega, by go_num, by rw [hs'], by rw [hs'], by rw [hs']; exact ho2, hb2⟩
            case measure => simp [intOf]; omega
          | false =>
            rw [hok] at m1 hs'
            simp only [Bool.false_eq_true, if_false] at hs'
            go_wp2
            go_roundw
            case rel => exact ⟨k + 1, by omega, by go_num, by rw [hs'], by rw [hs']; go_num, by rw [hs']; exact ho2, hb2⟩
            case measure => simp [intOf]; omega
    · have hkn : k = n := by omega
      subst hkn
      go_wp2
      go_ret3
      exact ⟨_, rfl, ho, hb⟩

set_option maxHeartbeats 2000000 in
theorem beq_same {A : List Nat} {v1 v2 : Value} {lo1 lo2 : Nat} {w : World} (h1 : w.ownsRow lo1 3 1 v1 A.length (ints A)) (h2 : w.ownsRow lo2 3 1 v2 A.length (ints A)) (hn : A.length ≤ 4096) :
    Calls Yba.prog 17 #[v1, v2] w fun r w' => r = .returned (.bool true) ∧ Below w.heap.size w w' := by
  obtain ⟨a1, c1, rfl, s1⟩ := own_shape h1
  obtain ⟨a2, c2, rfl, s2⟩ := own_shape h2
  go_enter Yba.func17, Yba.ntmps17
  go_wp2
  go_loopw [13] (fun i wr => ∃ k : Nat, k ≤ A.length ∧ i = .int .i64 k ∧ Below w.heap.size w wr) (fun i _ => A.length - (intOf i).toNat)
  case atStart => exact ⟨0, Nat.zero_le _, rfl, Below.refl _ _⟩
  case round =>
    obtain ⟨k, hk, rfl, hb⟩ := hrel
    by_cases hlt : k < A.length
    · obtain ⟨g1, rfl, _⟩ := s1 (by omega)
      obtain ⟨g2, rfl, _⟩ := s2 (by omega)
      have l1 := (own_blk h1).choose_spec.1.lt
      have l2 := (own_blk h2).choose_spec.1.lt
      have d1 : wr.cell? ⟨g1, k, none⟩ = some (.int .i64 (A[k] : Nat)) := (hb.cell (p := ⟨g1, k, none⟩) l1).trans (own_cell h1 (by simp [ints, hlt]))
      have d2 : wr.cell? ⟨g2, k, none⟩ = some (.int .i64 (A[k] : Nat)) := (hb.cell (p := ⟨g2, k, none⟩) l2).trans (own_cell h2 (by simp [ints, hlt]))
      generalize A[k] = x at *
      clear s1 s2
      go_wp2_with fail
      go_quiet (fail)
      go_wp2
      go_roundw
      case rel => exact ⟨k + 1, by omega, by go_num, below_drewN hb _⟩
      case measure => simp [intOf]; omega
    · have hkn : k = A.length := by omega
      subst hkn
      clear s1 s2 h1 h2
      go_wp2
      go_ret
      exact ⟨rfl, hb⟩

end Go.Proofs.Ybulkonk
