/-
  LawS0751BAdded walked.
-/
import Derived.Test.YbulkonkEv12
namespace Go.Proofs.Ybulkonk
open Go.RowKit Go.MuLone

theorem below_trans {B C : Nat} {a b c : World} (h : Below B a b) (k : Below C b c) (hBC : B ≤ C) : Below B a c := ⟨k.os.trans h.os, k.tape.trans h.tape, k.output.trans h.output, Nat.le_trans h.size k.size, fun q hq => (k.block q (by omega)).trans (h.block q hq)⟩

/-- Whether one was found that brings the extras, as the law's variable has it. -/
def spd (F : Nat → Bool) (k : Nat) : Bool := (who F k).isSome

set_option maxHeartbeats 8000000 in
theorem addedB {a0 b0 : Option Addr} {n cap ab ao m cap2 eab eao : Nat} {fi oi fe oe : Nat → Bool} {w : World} (H : It w a0 n ab ao fi oi) (K : It w b0 m eab eao fe oe) (hn : n ≤ 1024) (hm : m ≤ 1024) :
    Calls Yba.prog 6 #[.slice a0 n cap, .slice b0 m cap2] w fun e w' => e = .returned (.bool true) ∧ Below w.heap.size w w' := by
  obtain ⟨F, hF⟩ : ∃ F, F = mix n fi fe := ⟨_, rfl⟩
  obtain ⟨ok, hok⟩ : ∃ ok, ok = mix n oi oe := ⟨_, rfl⟩
  have F1 : ∀ i, i < n → F i = fi i := fun i hi => by simp [hF, mix, hi]
  have F2 : ∀ i, F (n + i) = fe i := fun i => by simp only [hF, mix]; rw [if_neg (by omega), Nat.add_sub_cancel_left]
  have O1 : ∀ i, i < n → ok i = oi i := fun i hi => by simp [hok, mix, hi]
  have O2 : ∀ i, ok (n + i) = oe i := fun i => by simp only [hok, mix]; rw [if_neg (by omega), Nat.add_sub_cancel_left]
  clear hF hok
  go_enter Yba.func6, Yba.ntmps6
  go_wp2
  go_loopw [7, 30] (fun x i wr => ∃ (j : Nat) (eb : Nat → Nat), j ≤ m ∧ i = .int .i64 j ∧ X1 w.heap.size n ok F w j eb x wr) (fun _ i _ => m - (intOf i).toNat)
  case atStart => exact ⟨0, fun _ => 0, Nat.zero_le _, rfl, x1_start w n ok F⟩
  case round =>
    obtain ⟨j, eb, hj, rfl, hx⟩ := hrel
    have hsz := hx.below.size
    by_cases hlt : j < m
    · obtain ⟨rfl, hab, _, _⟩ := K j hlt
      obtain ⟨_, _, hc0, hc1⟩ := (K.below hx.below (fun _ => hab)) j hlt
      rw [← F2 j] at hc0
      rw [← O2 j] at hc1
      have hstep := @x1_step w.heap.size n ok F w j eb _ wr hx
      have ho := hx.own
      clear hx H K F1 F2 O1 O2
      generalize F (n + j) = f at *
      generalize ok (n + j) = o at *
      go_wp2_with (at_builtin; refine wpList_append1 _ rfl _ _ 49 rfl Yba.underlying49 info85 rfl rfl (((ho.alloc _).alloc _).alloc _) ?c1 (ad := ⟨wr.heap.size + 1 + 1, 0, none⟩) (c := 1) rfl (y := .iface 55 (.pointer (some ⟨wr.heap.size + 1, 0, none⟩))) ?c2 rfl ?c3 ?c4 ?_)
      case c1 => omega
      case c3 => unfold maxLen; omega
      case c4 => omega
      intro g2 cap3 w2 hA
      have hX := hstep rfl hA
      clear hstep hA ho
      go_wp2
      go_roundw
      case rel => exact ⟨j + 1, _, by omega, by go_num, hX⟩
      case measure => simp [intOf]; omega
    · have hjm : j = m := by omega
      subst hjm
      obtain ⟨xa, xc, rfl, _⟩ := own_shape hx.own
      have hx2 : X2 w.heap.size n j ok F w (.slice xa j xc) 0 eb (.slice none 0 0) wr := ⟨x1_turn hx, hx.below⟩
      clear hx
      obtain ⟨w1, hw1⟩ : ∃ w1 : World, w1 = wr := ⟨_, rfl⟩
      rw [← hw1] at hx2 hsz ⊢
      clear hw1 wr
      go_wp2
      go_loopw [10, 52] (fun fl i wr => ∃ (k : Nat) (eb : Nat → Nat) (v : Value), k ≤ n ∧ i = .int .i64 k ∧ fl = .bool (spd F k) ∧ X2 w.heap.size n j ok F w (.slice xa j xc) k eb v wr) (fun _ i _ => n - (intOf i).toNat)
      case atStart => exact ⟨0, eb, _, Nat.zero_le _, rfl, rfl, hx2⟩
      case round =>
        obtain ⟨k, eb2, v, hk, rfl, rfl, hx⟩ := hrel
        clear hx2
        have hsz2 := hx.below.size
        by_cases hlt2 : k < n
        · obtain ⟨rfl, hab, _, _⟩ := H k hlt2
          obtain ⟨_, _, hc0, hc1⟩ := (H.below hx.below (fun _ => hab)) k hlt2
          rw [← F1 k hlt2] at hc0
          rw [← O1 k hlt2] at hc1
          have HX := fun W b g => x2_add hx hlt2 hn (W := W) (b := b) (g := g)
          have hws := who_succ F k
          clear hx H K F1 F2 O1 O2
          cases hf : F k with
          | true =>
            have hfr : frst F k = false := by simp [frst, hf]
            have hspd : spd F (k + 1) = spd F k := by simp [spd, hws, hf]
            rw [hf] at hc0
            simp only [spA, inA, hfr, hf, Bool.false_eq_true, if_false] at HX
            clear hws hfr
            generalize spd F k = sp at *
            cases sp
            all_goals
              go_wp2_with fail
              refine (HX _ _ _ ((((Fr.refl _ _).alloc _).alloc _).alloc _) rfl ((Blk.new _ _ _ _ (by simp)).alloc _) (by omega) (Blk.new _ _ _ _ (by simp))).mono ?_
              rintro r w2 ⟨rfl, eb3, v3, hx3⟩
              clear HX
              go_wp2
              go_roundw
              case rel => exact ⟨k + 1, eb3, v3, by omega, by go_num, by rw [hspd], hx3⟩
              case measure => simp [intOf]; omega
          | false =>
            rw [hf] at hc0
            cases hsp : spd F k with
            | true =>
              have hfr : frst F k = false := by
                unfold spd at hsp
                unfold frst
                cases hw : who F k with
                | none => rw [hw] at hsp; simp at hsp
                | some y => simp
              have hspd : spd F (k + 1) = true := by
                unfold spd at hsp ⊢
                rw [hws]
                cases hw : who F k with
                | none => rw [hw] at hsp; simp at hsp
                | some y => simp
              simp only [spA, inA, hfr, hf, Bool.false_eq_true, if_false] at HX
              clear hws hfr
              go_wp2_with fail
              refine (HX _ _ _ ((((Fr.refl _ _).alloc _).alloc _).alloc _) rfl ((Blk.new _ _ _ _ (by simp)).alloc _) (by omega) (Blk.new _ _ _ _ (by simp))).mono ?_
              rintro r w2 ⟨rfl, eb3, v3, hx3⟩
              clear HX
              go_wp2
              go_roundw
              case rel => exact ⟨k + 1, eb3, v3, by omega, by go_num, by rw [hspd], hx3⟩
              case measure => simp [intOf]; omega
            | false =>
              have hnone : who F k = none := by
                unfold spd at hsp
                cases hw : who F k with
                | none => rfl
                | some y => rw [hw] at hsp; simp at hsp
              have hfr : frst F k = true := by simp [frst, hnone, hf]
              have hspd : spd F (k + 1) = true := by
                unfold spd
                rw [hws, hnone, hf]
                simp
              simp only [spA, inA, hfr, hf, if_true] at HX
              clear hws hfr hnone
              go_wp2_with fail
              refine (HX _ _ _ ((((Fr.refl _ _).alloc _).alloc _).alloc _) rfl ((Blk.new _ _ _ _ (by simp)).alloc _) (by omega) (Blk.new _ _ _ _ (by simp))).mono ?_
              rintro r w2 ⟨rfl, eb3, v3, hx3⟩
              clear HX
              go_wp2
              go_roundw
              case rel => exact ⟨k + 1, eb3, v3, by omega, by go_num, by rw [hspd], hx3⟩
              case measure => simp [intOf]; omega
        · have hkn : n = k := by omega
          subst hkn
          have hst := hx.st
          have hb := hx.below
          clear hx
          cases hsp : spd F n with
          | false =>
            have hnone : who F n = none := by
              unfold spd at hsp
              cases hw : who F n with
              | none => rfl
              | some y => rw [hw] at hsp; simp at hsp
            rw [hnone] at hst
            obtain ⟨s', b, hW, hfold, hlen⟩ := wait_plain (c := cfA w.heap.size n j ok F (.slice xa j xc)) ⟨F, none, List.range n, []⟩ rfl List.nodup_range (by simp; omega) (by simp; omega)
            simp at hlen
            go_wp2_with fail
            refine (background _).mono ?_
            rintro r w1 ⟨ctx, rfl, rfl⟩
            go_wp2_with fail
            refine (wait_any (s := ⟨F, none, List.range n, []⟩) hst (by simp [cfA, exs_len]; omega) ctx hW).mono ?_
            rintro r w2 ⟨rfl, v2, h2, ch2⟩
            have hb2 : Below w.heap.size w w2 := below_trans hb ch2.below (Nat.le_refl _)
            have hIt : It w2 a0 n ab ao fi oi := H.below hb2 (fun h0 => H.lt h0)
            have hsz3 := hb2.size
            clear hst hb H K ch2
            go_wp2_with fail
            have hg : gsts F ok 0 n ([], true, 0) = (s'.L, b, s'.U.length) := by
              rw [← hfold]
              simp [gsts, cfA]
            refine (bstep_any (F := F) (ok := ok) (base := 0) (st := ([], true, 0)) (lo := w2.heap.size) hIt (fun i hi => by simpa using F1 i hi) (fun i hi => by simpa using O1 i hi) hn (by omega) (Nat.le_refl _) (fun h0 => hIt.lt h0) (World.ownsRow_nil _ _ _ _) (by simp) (by simp)).mono ?_
            rintro r w3 ⟨wv, rfl, ho3, hb3⟩
            rw [hg] at ho3 ⊢
            simp only at ho3
            have h3 := h2.fr0 (fr0_of_below hb3)
            obtain ⟨lv, hlv, hlo⟩ := h3.log
            have g0 := hlv.cell 0
            simp at g0
            have hcf : (cfA w.heap.size n j ok F (.slice xa j xc)).lgb = w.heap.size := rfl
            rw [hcf] at g0
            have HB := beq_same (v1 := lv) (v2 := wv) hlo ho3 (by omega)
            have hb4 : ∀ w4, Below w3.heap.size w3 w4 → Below w.heap.size w w4 := fun w4 hx => below_trans (below_trans hb2 hb3 (by omega)) hx (Nat.le_trans hsz3 hb3.size)
            clear hIt hlv hlo ho3 hfold h2 F1 F2 O1 O2
            cases b
            all_goals go_wp2_with (first | (go_at_call 17; refine HB.mono ?_; rintro r w4 ⟨rfl, hb5⟩))
            all_goals
              have h4 := h3.fr0 (fr0_of_below hb5)
              have hb6 := hb4 _ hb5
              clear hb4 HB h3 hb5 hb3 hb2
              try go_wp2_with fail
              refine (Pending_st h4).mono ?_
              rintro r w5 ⟨rfl, v5, h5, ch5⟩
              have hb7 : Below w.heap.size w w5 := below_trans hb6 ch5.below (Nat.le_refl _)
              have hU : ((List.filter (fun x => !s'.F x) s'.V).length : Int) = (s'.U.length : Int) := rfl
              rw [hU]
              clear h5 h4 ch5
              go_wp2
              go_ret
              exact ⟨rfl, hb7⟩
          | true =>
            obtain ⟨x0, hx0⟩ : ∃ x0, who F n = some x0 := by
              unfold spd at hsp
              cases hw : who F n with
              | none => rw [hw] at hsp; simp at hsp
              | some y => exact ⟨y, rfl⟩
            rw [hx0] at hst
            obtain ⟨t, ht⟩ := who_U hx0
            obtain ⟨s', b, hW, hfold, hlen⟩ := wait_extra (c := cfA w.heap.size n j ok F (.slice xa j xc)) ⟨F, some x0, List.range n, []⟩ x0 t ht rfl (exs_nodup n j) (by simp; omega) (by simp [cfA, exs_len]; omega) (by simp)
            clear ht
            go_wp2_with fail
            refine (background _).mono ?_
            rintro r w1 ⟨ctx, rfl, rfl⟩
            go_wp2_with fail
            refine (wait_any (s := ⟨F, some x0, List.range n, []⟩) hst (by simp [cfA, exs_len]; omega) ctx hW).mono ?_
            rintro r w2 ⟨rfl, v2, h2, ch2⟩
            have hb2 : Below w.heap.size w w2 := below_trans hb ch2.below (Nat.le_refl _)
            have hIt : It w2 a0 n ab ao fi oi := H.below hb2 (fun h0 => H.lt h0)
            have hKt : It w2 b0 j eab eao fe oe := K.below hb2 (fun h0 => K.lt h0)
            have hsz3 := hb2.size
            clear hst hb H K ch2 hx0
            have hg : gsts F ok n j (gsts F ok 0 n ([], true, 0)) = (s'.L, b, s'.U.length) := by
              rw [← hfold]
              simp [gsts, cfA, exs]
            have hgl := gsts_le F ok 0 n ([], true, 0)
            simp at hgl
            go_wp2_with fail
            refine (bstep_any (F := F) (ok := ok) (base := 0) (st := ([], true, 0)) (lo := w2.heap.size) hIt (fun i hi => by simpa using F1 i hi) (fun i hi => by simpa using O1 i hi) hn (by omega) (Nat.le_refl _) (fun h0 => hIt.lt h0) (World.ownsRow_nil _ _ _ _) (by simp) (by simp)).mono ?_
            rintro r w3 ⟨wv, rfl, ho3, hb3⟩
            have hKt3 : It w3 b0 j eab eao fe oe := hKt.below hb3 (fun h0 => hKt.lt h0)
            have HS := bstep_any (F := F) (ok := ok) (base := n) (cap := cap2) (st := gsts F ok 0 n ([], true, 0)) (lo := w2.heap.size) hKt3 (fun i _ => F2 i) (fun i _ => O2 i) hm (by omega) hb3.size (fun h0 => hKt.lt h0) ho3 (by omega) (by omega)
            rw [hg] at HS
            generalize gsts F ok 0 n ([], true, 0) = r1 at *
            go_wp2_with fail
            refine HS.mono ?_
            rintro r w4 ⟨wv2, rfl, ho4, hb4⟩
            have hb34 := below_trans hb3 hb4 (Nat.le_refl _)
            have h3 := h2.fr0 (fr0_of_below hb34)
            obtain ⟨lv, hlv, hlo⟩ := h3.log
            have g0 := hlv.cell 0
            simp at g0
            have hcf : (cfA w.heap.size n j ok F (.slice xa j xc)).lgb = w.heap.size := rfl
            rw [hcf] at g0
            have HB := beq_same (v1 := lv) (v2 := wv2) hlo ho4 (by omega)
            have hb4' : ∀ w5, Below w4.heap.size w4 w5 → Below w.heap.size w w5 := fun w5 hx => below_trans (below_trans hb2 hb34 (by omega)) hx (Nat.le_trans hsz3 hb34.size)
            clear hIt hKt hKt3 hlv hlo ho3 ho4 hfold h2 F1 F2 O1 O2 HS hgl hg
            cases b
            all_goals go_wp2_with (first | (go_at_call 17; refine HB.mono ?_; rintro r w4 ⟨rfl, hb5⟩))
            all_goals
              have h4 := h3.fr0 (fr0_of_below hb5)
              have hb6 := hb4' _ hb5
              clear hb4' hb4 hb34 HB h3 hb5 hb3 hb2
              try go_wp2_with fail
              refine (Pending_st h4).mono ?_
              rintro r w5 ⟨rfl, v5, h5, ch5⟩
              have hb7 : Below w.heap.size w w5 := below_trans hb6 ch5.below (Nat.le_refl _)
              have hU : ((List.filter (fun x => !s'.F x) s'.V).length : Int) = (s'.U.length : Int) := rfl
              rw [hU]
              clear h5 h4 ch5
              go_wp2
              go_ret
              exact ⟨rfl, hb7⟩

end Go.Proofs.Ybulkonk
