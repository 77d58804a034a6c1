/-
  The closure of LawS0751AAddDuring.
-/
import Derived.Test.YbulkonkAdd
import Derived.Deep.Cut
namespace Go.Proofs.Ybulkonk
open Go.RowKit Go.MuLone

theorem ad_pb {p : Pl} {w1 : World} {z : Nat → Int} {n i m : Nat} {q cn : Int} {w : World} (h : Ad p w1 z n i m q cn w) {pb : Nat} {c : Array Value} {t : TypeId} (hpb : Blk w1 pb c t) (h0 : pb < p.lo) (h1 : pb ≠ p.lg) (h2 : pb ≠ p.b) (h3 : pb ≠ p.cb) (h4 : pb ≠ p.g0) : Blk w pb c t := by
  unfold Blk at *; rw [h.block pb h0 h1 h2 h3 h4]; exact hpb

theorem App.undrew {lo : Nat} {e : TypeId} {w w' : World} {v v' : Value} {n : Nat} {xs : List Value} {x : Value} (h : App lo e w.drew w' v v' n xs x) : App lo e w w' v v' n xs x :=
  ⟨h.own, ⟨h.grown.os, h.grown.tape, h.grown.output, h.grown.size, h.grown.block⟩, h.where_⟩

set_option maxHeartbeats 2000000 in
theorem clo10 {p : Pl} (hp : p.ok) {w1 : World} {z : Nat → Int} {n i : Nat} {w : World} (h : Ad p w1 z n i i 0 i w) (hn : n ≤ 1024) (hi : i < n) {pb : Nat} (hpb : Blk w1 pb #[.pointer (some ⟨p.b, 0, none⟩)] 23)
    (p0 : pb < p.lo) (p1 : pb ≠ p.lg) (p2 : pb ≠ p.b) (p3 : pb ≠ p.cb) (p4 : pb ≠ p.g0) :
    Calls Yba.prog 10 #[.iface 42 (.int .i8 (z i)), .pointer (some ⟨p.lg, 0, none⟩), .pointer (some ⟨pb, 0, none⟩), .pointer (some ⟨p.cb, 0, none⟩)] w fun e w' => e = .returned (.tuple #[]) ∧ Ad p w1 z n (i + 1) (i + 1) 0 (i + 1 : Nat) w' := by
  obtain ⟨lv, ev, hlv, hbg, hl, he, hd, hg⟩ := h.st
  have hs := h.size
  have hc := hlv.cell 0
  simp at hc
  go_enter Yba.func10, Yba.ntmps10
  go_wp2_with (at_builtin; refine wpList_append1 _ rfl (.tmp 5) (.tmp 7) 25 rfl Yba.underlying25 info28 rfl rfl (hl.alloc _) ?c1 (ad := ⟨w.heap.size, 0, none⟩) (c := 1) rfl (y := .iface 42 (.int .i8 (z i))) ?c2 rfl ?c3 ?c4 ?_)
  case c1 => simp; omega
  case c2 => simp [go_sem]
  case c3 => unfold maxLen; omega
  case c4 => omega
  intro g cap w2 hA
  have h2 := ad_log hp h hlv hbg hl he hd hg hA
  have hne := own_ne hl hlv (by decide)
  have hv2 : Blk w2 p.lg #[lv] 25 := hA.blk (hlv.alloc _) hne
  have c0 := hv2.cell 0
  have f0 := hv2.frozen 0
  simp at c0
  clear hA hc hlv hbg hl he hd hg hv2 hne h hs
  obtain ⟨lv2, ev2, hlv, hbg, hl, he, hd, hg⟩ := h2.st
  have hb0 := hbg.cell 0
  have hbf := hbg.frozen 0
  have hpb2 := (ad_pb h2 hpb p0 p1 p2 p3 p4).cell 0
  simp at hb0 hpb2
  go_wp2_with (go_at_call 11; refine (lock_free Yba.muLib ⟨p.b, 0, none⟩ _ hb0 hbf).mono ?_; rintro e w' ⟨rfl, rfl⟩)
  have h3 := ad_lock hp h2 1
  clear h2 hlv hbg hl he hd hg hb0 hbf hpb2 c0 f0
  obtain ⟨w3, hw3⟩ : ∃ w3 : World, w3 = (w2.setCell ⟨p.lg, 0, none⟩ (.slice (some ⟨g, 0, none⟩) (i + 1) cap)).setCell ⟨p.b, 0, none⟩ (.int .i32 1) := ⟨_, rfl⟩
  rw [← hw3] at h3 ⊢
  clear hw3 w2
  obtain ⟨lv3, ev3, hlv, hbg, hl, he, hd, hg⟩ := h3.st
  obtain ⟨eao, ec, rfl, _⟩ := own_shape he
  have hs := h3.size
  have hb2 := hbg.cell 2
  have hbf := hbg.frozen 2
  have hpb2 := (ad_pb h3 hpb p0 p1 p2 p3 p4).cell 0
  have hcn := h3.cnt.cell 0
  simp at hb2 hpb2 hcn
  have hb2a : ∀ o, (w3.alloc o).cell? ⟨p.b, 2, none⟩ = some (.slice eao (n + i) ec) := fun o => ((hbg.alloc o).cell 2).trans rfl
  have hpa : ∀ o, (w3.alloc o).cell? ⟨pb, 0, none⟩ = some (.pointer (some ⟨p.b, 0, none⟩)) := fun o => (((ad_pb h3 hpb p0 p1 p2 p3 p4).alloc o).cell 0).trans rfl
  have l2 := own_ne he hbg (by decide)
  have hpbk := ad_pb h3 hpb p0 p1 p2 p3 p4
  have l4 := own_ne he hpbk (by decide)
  go_cut [] from 5 (fun wc => Ad p w1 z n (i + 1) (i + 1) 1 i wc)
  case first =>
    go_region_law (refine step_append1 rfl (.tmp 17) (.tmp 21) 25 rfl Yba.underlying25 info28 rfl (by simp [Act.eval]) (he.alloc _).drew (Nat.zero_le _) (ad := ⟨w3.heap.size, 0, none⟩) (c := 1) (by simp [Act.eval]) (y := ad i) (by simp [go_sem, ad]) rfl (by unfold maxLen; omega) (by omega) ?_; intro g2 cap2 w4 hA; have q1 := (hA.undrew.blk (hbg.alloc _) l2).cell 2; have q2 := (hA.undrew.blk (hbg.alloc _) l2).frozen 2; have q3 := (hA.undrew.blk (hpbk.alloc _) l4).cell 0; simp at q1 q3)
    all_goals go_wp2
    all_goals go_meet
    all_goals exact ad_err hp h3 hlv hbg hl he hd hg (by assumption : App _ _ _ _ _ _ _ _ _).undrew
  case rest =>
    clear hlv hbg hl he hd hg hb2 hbf hpb2 hcn hb2a hpa l2 hpbk l4 h3
    obtain ⟨lv5, ev5, hlv, hbg, _⟩ := hcut.st
    have hb0 := hbg.cell 0
    have hbf := hbg.frozen 0
    have hpb5 := (ad_pb hcut hpb p0 p1 p2 p3 p4).cell 0
    simp at hb0 hpb5
    go_wp2_with fail
    refine (unlock_held Yba.muLib ⟨p.b, 0, none⟩ _ hb0 hbf).mono ?_
    rintro e w6 ⟨rfl, rfl⟩
    have h6 := ad_lock hp hcut 0
    have hcn := h6.cnt.cell 0
    have hcf := h6.cnt.frozen 0
    simp at hcn
    have h7 := ad_cnt hp h6 ((i + 1 : Nat) : Int)
    have h7' : Ad p w1 z n (i + 1) (i + 1) 0 ((i + 1 : Nat) : Int) ((wc.setCell ⟨p.b, 0, none⟩ (.int .i32 0)).setCell ⟨p.cb, 0, none⟩ (.int .i64 ((i : Int) + 1))) := h7
    clear h7 h6 hcut hlv hbg hb0 hbf hpb5
    go_wp2
    go_end0
    exact ⟨rfl, h7'⟩

end Go.Proofs.Ybulkonk
