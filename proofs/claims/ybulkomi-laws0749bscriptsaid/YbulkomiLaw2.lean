/-
  The script law: its state between the statements.
-/
import Derived.Test.YbulkomiLaw1
namespace Go.Proofs.Ybulkomi
open Go.RowKit

/-- The input: n steps, each of four rows of bytes. -/
structure StIn (w : World) (a0 : Option Addr) (n : Nat) (A : Nat → Nat → Option Addr) (C : Nat → Nat → Nat) (X : Nat → Nat → List Nat) : Prop where
  head : ∀ i, i < n → ∃ ab ao, a0 = some ⟨ab, ao, none⟩ ∧ ab < w.heap.size ∧ ∀ f, f < 4 → w.cell? ⟨ab, ao + i * 4 + f, none⟩ = some (.slice (A i f) (X i f).length (C i f))
  rows : ∀ i, i < n → ∀ f, f < 4 → BRow w.heap.size w (A i f) (X i f)

/-- the law's arrays -/
structure AR (w : World) (pb lb tb : Nat) (m : Mdl) (v8 : Value) (wr : World) : Prop where
  pres : Blk wr pb (presC m) 40
  plac : Blk wr lb (placC m) 41
  att : Blk wr tb (attC m) 43
  log : wr.ownsRow w.heap.size 3 1 v8 m.log.length (logV m)
  fr : Fr (fun k => w.heap.size ≤ k) w wr
  ge : w.heap.size ≤ pb ∧ w.heap.size ≤ lb ∧ w.heap.size ≤ tb

theorem AR.fr0 {w : World} {pb lb tb : Nat} {m : Mdl} {v8 : Value} {wr w' : World} (h : AR w pb lb tb m v8 wr) (hf : Fr (fun _ => False) wr w') : AR w pb lb tb m v8 w' :=
  ⟨hf.blk h.pres (fun s => s), hf.blk h.plac (fun s => s), hf.blk h.att (fun s => s), hf.own h.log (fun _ _ s => s), h.fr.trans' hf (fun _ _ s => s.elim), h.ge⟩
theorem AR.ft {w : World} {pb lb tb : Nat} {m : Mdl} {v8 : Value} {wr w' : World} (h : AR w pb lb tb m v8 wr) (hf : FT w.heap.size wr w') : AR w pb lb tb m v8 w' :=
  ⟨hf.blk h.pres (by decide) (by decide) (by decide), hf.blk h.plac (by decide) (by decide) (by decide), hf.blk h.att (by decide) (by decide) (by decide), hf.own h.log (by decide) (by decide) (by decide), h.fr.trans' hf (fun _ _ s => s.1), h.ge⟩

theorem mW_at (X : List Nat) : ∀ m : Mdl, (mW m X).at_ = m.at_ := by
  induction X with
  | nil => intro m; rfl
  | cons x t ih =>
    intro m
    have := ih (mAdd m (x % 16))
    simp only [mW, List.foldl_cons] at *
    rw [this]
    unfold mAdd
    split <;> rfl
theorem mD_at (X : List Nat) : ∀ m : Mdl, (mD m X).at_ = m.at_ := by
  induction X with
  | nil => intro m; rfl
  | cons x t ih =>
    intro m
    have := ih (mRem m (x % 16))
    simp only [mD, List.foldl_cons] at *
    rw [this]; rfl
theorem mD_pl (X : List Nat) : ∀ m : Mdl, (mD m X).pl = m.pl := by
  induction X with
  | nil => intro m; rfl
  | cons x t ih =>
    intro m
    have := ih (mRem m (x % 16))
    simp only [mD, List.foldl_cons] at *
    rw [this]; rfl
theorem mWA_pp (X : List Nat) : ∀ m : Mdl, (mWA m X).pr = m.pr ∧ (mWA m X).pl = m.pl := by
  induction X with
  | nil => intro m; exact ⟨rfl, rfl⟩
  | cons x t ih =>
    intro m
    have := ih (mSet m (x % 4))
    simp only [mWA, List.foldl_cons] at *
    rw [this.1, this.2]; exact ⟨rfl, rfl⟩
theorem mDA_pp (X : List Nat) : ∀ m : Mdl, (mDA m X).pr = m.pr ∧ (mDA m X).pl = m.pl := by
  induction X with
  | nil => intro m; exact ⟨rfl, rfl⟩
  | cons x t ih =>
    intro m
    have := ih (mDel m (x % 4))
    simp only [mDA, List.foldl_cons] at *
    rw [this.1, this.2]; exact ⟨rfl, rfl⟩

theorem ar7 {w : World} {pb lb tb : Nat} {m : Mdl} {v8 u8 : Value} {we wf : World} (h : AR w pb lb tb m v8 we) {X : List Nat} (p : Blk wf pb (presC (mW m X)) 40 ∧ Blk wf lb (placC (mW m X)) 41 ∧ wf.ownsRow w.heap.size 3 1 u8 (mW m X).log.length (logV (mW m X)) ∧ Fr (T7 w.heap.size pb lb we) we wf) : AR w pb lb tb (mW m X) u8 wf := by
  refine ⟨p.1, p.2.1, ?_, p.2.2.1, h.fr.trans' p.2.2.2 (fun k _ s => T7_ge h.ge.1 h.ge.2.1 k s), h.ge⟩
  have : attC (mW m X) = attC m := by unfold attC; rw [mW_at]
  rw [this]
  refine p.2.2.2.blk h.att ?_
  rintro (e | e | ⟨_, cur, e⟩)
  · exact blk_ne h.att h.pres (by decide) e
  · exact blk_ne h.att h.plac (by decide) e
  · exact blk_ne h.att e (by decide) rfl
theorem sr7 {c : Cfg} {B pb lb : Nat} {M : Mdl} {we wf : World} {c1 c2 : Array Value} (h : SR c we M) (h1 : Blk we pb c1 40) (h2 : Blk we lb c2 41) (p : Fr (T7 B pb lb we) we wf) : SR c wf M := h.fr p (T7_turn h1 h2)
theorem ar8 {w : World} {pb lb tb : Nat} {m : Mdl} {v8 : Value} {we wf : World} (h : AR w pb lb tb m v8 we) {X : List Nat} (p : Blk wf pb (presC (mD m X)) 40 ∧ Fr (fun k => k = pb) we wf) : AR w pb lb tb (mD m X) v8 wf := by
  have e1 : placC (mD m X) = placC m := by unfold placC; rw [mD_pl]
  have e2 : attC (mD m X) = attC m := by unfold attC; rw [mD_at]
  have e3 : logV (mD m X) = logV m := by unfold logV; rw [mD_log]
  refine ⟨p.1, by rw [e1]; exact p.2.blk h.plac (fun e => blk_ne h.plac h.pres (by decide) e), by rw [e2]; exact p.2.blk h.att (fun e => blk_ne h.att h.pres (by decide) e), ?_, h.fr.trans' p.2 (fun k _ s => by rw [s]; exact h.ge.1), h.ge⟩
  rw [e3, mD_log]
  exact p.2.own h.log (fun k hk e => own_ne h.log h.pres (by decide) (by rw [hk, e]))
theorem ar9 {w : World} {pb lb tb : Nat} {m : Mdl} {v8 : Value} {we wf : World} (h : AR w pb lb tb m v8 we) {X : List Nat} (p : Blk wf tb (attC (mWA m X)) 43 ∧ Fr (fun k => k = tb) we wf) : AR w pb lb tb (mWA m X) v8 wf := by
  have e1 : placC (mWA m X) = placC m := by unfold placC; rw [(mWA_pp X m).2]
  have e2 : presC (mWA m X) = presC m := by unfold presC; rw [(mWA_pp X m).1]
  have e3 : logV (mWA m X) = logV m := by unfold logV; rw [mWA_log]
  refine ⟨by rw [e2]; exact p.2.blk h.pres (fun e => blk_ne h.pres h.att (by decide) e), by rw [e1]; exact p.2.blk h.plac (fun e => blk_ne h.plac h.att (by decide) e), p.1, ?_, h.fr.trans' p.2 (fun k _ s => by rw [s]; exact h.ge.2.2), h.ge⟩
  rw [e3, mWA_log]
  exact p.2.own h.log (fun k hk e => own_ne h.log h.att (by decide) (by rw [hk, e]))
theorem ar10 {w : World} {pb lb tb : Nat} {m : Mdl} {v8 : Value} {we wf : World} (h : AR w pb lb tb m v8 we) {X : List Nat} (p : Blk wf tb (attC (mDA m X)) 43 ∧ Fr (fun k => k = tb) we wf) : AR w pb lb tb (mDA m X) v8 wf := by
  have e1 : placC (mDA m X) = placC m := by unfold placC; rw [(mDA_pp X m).2]
  have e2 : presC (mDA m X) = presC m := by unfold presC; rw [(mDA_pp X m).1]
  have e3 : logV (mDA m X) = logV m := by unfold logV; rw [mDA_log]
  refine ⟨by rw [e2]; exact p.2.blk h.pres (fun e => blk_ne h.pres h.att (by decide) e), by rw [e1]; exact p.2.blk h.plac (fun e => blk_ne h.plac h.att (by decide) e), p.1, ?_, h.fr.trans' p.2 (fun k _ s => by rw [s]; exact h.ge.2.2), h.ge⟩
  rw [e3, mDA_log]
  exact p.2.own h.log (fun k hk e => own_ne h.log h.att (by decide) (by rw [hk, e]))
theorem sr_blk {c : Cfg} {pb : Nat} {M : Mdl} {we wf : World} {c1 : Array Value} {t : TypeId} (h : SR c we M) (h1 : Blk we pb c1 t) (t1 : t ≠ 69) (t2 : t ≠ 76) (t3 : t ≠ 78) (p : Fr (fun k => k = pb) we wf) : SR c wf M :=
  h.fr p (fun k hk e => by subst e; exact no_turn h1 t1 t2 t3 hk)

/-- a row beside the batch's own cells -/
theorem bt_own {w w' : World} {bb lo sz : Nat} {e : TypeId} {cs : Array Value} {v : Value} {n : Nat} {xs : List Value} (h : w.ownsRow lo e sz v n xs) (hb : Blk w bb cs 48) (he : (48 : TypeId) ≠ e) (hf : Fr (fun k => k = bb) w w') : w'.ownsRow lo e sz v n xs :=
  hf.own h (fun k hk e1 => own_ne h hb he (by rw [hk, e1]))
theorem bt_blk {w w' : World} {bb sk : Nat} {cs cd : Array Value} (h : Blk w sk cd 37) (hb : Blk w bb cs 48) (hf : Fr (fun k => k = bb) w w') : Blk w' sk cd 37 :=
  hf.blk h (fun e => blk_ne h hb (by decide) e)
theorem bt_old {w w1 w' : World} {bb : Nat} (h : Fr (fun _ => False) w w1) (hb : w.heap.size ≤ bb) (hf : Fr (fun k => k = bb) w1 w') : Fr (fun _ => False) w w' := h.trans' hf (fun i hi e => by omega)

/-- the counts -/
theorem sr_len {c : Cfg} {w : World} {m : Mdl} (h : SR c w m) : Calls Yba.prog 13 #[.pointer (some ⟨c.sb, 0, none⟩)] w fun r w' => r = .returned (.int .i64 (cntP m 16 : Nat)) ∧ w = w' := by
  obtain ⟨L, V, SE, SS, LA, VA, hx, hm⟩ := h
  have := len_any hx.blk hx.set_
  rw [len_filter hx.set_.nd hm.set_.1] at this
  exact this
theorem sr_att {c : Cfg} {w : World} {m : Mdl} (h : SR c w m) : Calls Yba.prog 14 #[.pointer (some ⟨c.sb, 0, none⟩)] w fun r w' => r = .returned (.int .i64 (cntA m 4 : Nat)) ∧ w = w' := by
  obtain ⟨L, V, SE, SS, LA, VA, hx, hm⟩ := h
  have := attrs_any hx.blk hx.attr
  rw [len_filter hx.attr.nd hm.attr] at this
  exact this
theorem sr_cells {c : Cfg} {w : World} {m : Mdl} (h : SR c w m) : w.cell? ⟨c.sb, 5, none⟩ = some (.int .u64 0) ∧ w.cell? ⟨c.sb, 3, none⟩ = some (.int .u64 (m.log.length : Nat)) := by
  obtain ⟨L, V, SE, SS, LA, VA, hx, hm⟩ := h
  exact ⟨(hx.blk.cell 5).trans rfl, (hx.blk.cell 3).trans rfl⟩

/-- the store as New leaves it -/
theorem sr_new (w1 : World) (lo : Nat) (hlo : lo ≤ w1.heap.size) : SR ⟨w1.heap.size + 4, w1.heap.size, w1.heap.size + 1, w1.heap.size + 2, w1.heap.size + 3, lo⟩ (((((w1.alloc (.map #[] 0)).alloc (.map #[] 0)).alloc (.map #[] 0)).alloc (.map #[] 0)).alloc (.cells (stC w1.heap.size (w1.heap.size + 1) (w1.heap.size + 2) (w1.heap.size + 3) 0) 69)) m0 := by
  have hmf : ∀ (N : Nat) (K V : Nat → Value) (w : World) (k : Nat), w.heap[k]? = some (.map #[] 0) → Mf N K w k [] V := fun N K V w k h => ⟨⟨#[], 0, h, rfl⟩, List.nodup_nil, fun x hx => by simp at hx⟩
  have g0 : ∀ (w : World) (o : Obj), (w.alloc o).heap[w.heap.size]? = some o := fun w o => by show (w.heap.push o)[w.heap.size]? = some o; simp
  have g1 : ∀ (w : World) (o : Obj) (k : Nat) (x : Obj), w.heap[k]? = some x → (w.alloc o).heap[k]? = some x := fun w o k x h => by
    rw [Below.heap_alloc _ _ _ (Array.getElem?_eq_some_iff.1 h).1]; exact h
  refine ⟨[], fun _ => undef, fun _ => [], fun _ => [], [], fun _ => valV, ⟨?_, ?_, ⟨[], fun _ => undef, fun _ => 0, fun _ => 0, ?_, fun q => by simp, fun q hq => by simp at hq, fun q r hq => by simp at hq⟩, ⟨[], fun _ => undef, fun _ => 0, fun _ => 0, ?_, fun q => by simp, fun q hq => by simp at hq, fun q r hq => by simp at hq⟩, ?_, by simp, by simp; omega, by simp; omega, fun a ha => by simp at ha⟩, ?_⟩
  · exact Blk.new _ _ _ _ (by simp)
  · exact hmf _ _ _ _ _ (g1 _ _ _ _ (g1 _ _ _ _ (g1 _ _ _ _ (g1 _ _ _ _ (g0 w1 _)))))
  · exact hmf _ _ _ _ _ (g1 _ _ _ _ (g1 _ _ _ _ (g1 _ _ _ _ (by have := g0 (w1.alloc (.map #[] 0)) (.map #[] 0); simpa using this))))
  · exact hmf _ _ _ _ _ (g1 _ _ _ _ (g1 _ _ _ _ (by have := g0 ((w1.alloc (.map #[] 0)).alloc (.map #[] 0)) (.map #[] 0); simpa using this)))
  · exact hmf _ _ _ _ _ (g1 _ _ _ _ (by have := g0 (((w1.alloc (.map #[] 0)).alloc (.map #[] 0)).alloc (.map #[] 0)) (.map #[] 0); simpa using this))
  · refine ⟨⟨fun k => by simp [m0], fun k hk => by simp at hk⟩, fun q _ => ⟨by simp, fun s hs => by simp at hs, rfl, fun e => absurd rfl e⟩, fun q _ => ⟨by simp, fun s hs => by simp at hs, rfl, fun e => absurd rfl e⟩, fun a => by simp [m0], ⟨fun k hk => by simp [m0] at hk, fun k _ hp => by simp [m0] at hp⟩⟩

theorem pres0 : presC m0 = #[.bool false, .bool false, .bool false, .bool false, .bool false, .bool false, .bool false, .bool false, .bool false, .bool false, .bool false, .bool false, .bool false, .bool false, .bool false, .bool false] := by kernel_rfl
theorem plac0 : placC m0 = #[.int .u64 0, .int .u64 0, .int .u64 0, .int .u64 0, .int .u64 0, .int .u64 0, .int .u64 0, .int .u64 0, .int .u64 0, .int .u64 0, .int .u64 0, .int .u64 0, .int .u64 0, .int .u64 0, .int .u64 0, .int .u64 0] := by kernel_rfl
theorem att0 : attC m0 = #[.bool false, .bool false, .bool false, .bool false] := by kernel_rfl

end Go.Proofs.Ybulkomi
