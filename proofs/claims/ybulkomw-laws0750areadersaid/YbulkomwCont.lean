import Derived.Test.YbulkomwLeave
namespace Go.Proofs.Ybulkomw
open Go.RowKit

/-- A method called on an interface value whose dynamic type is known. -/
theorem wpList_invoke {P : Program} (w : World) {ops : Array Oper} {rest : List Oper} {o : Oper} {a : Act} {Q : Exit → Act → World → Prop}
    (hg : o.guard = none) (recv : Operand) (name : String) (args : Array Operand) (ats : Array TypeId) (hop : o.op = Op.call { callee := Callee.invoke recv name, args := args, argTypes := ats })
    (rv : Value) (hv : a.eval recv = rv) (vs : Array Value) (hvs : args.map a.eval = vs) (f : FuncId) (fs : Array Value)
    (hrun : (callMethod rv name vs).run P w = .ok (.enter f fs) w)
    (h : Calls P f fs w fun
      | .returned v, w'' => wpList P ops Q rest (a.put o.dst v) w''
      | .panicked chain, w'' => Q (.panic chain) a w''
      | .outgrown, _ => LetsOut Q) :
    wpList P ops Q (o :: rest) a w := by
  subst hv hvs
  refine wpList_plain hg fun K hK' => ?_
  have e : (execOp a.eval o).run P w = .ok (.enter f fs) w := by
    have ex : (#[a.eval recv] ++ Array.map a.eval args).extract 1 (#[a.eval recv] ++ Array.map a.eval args).size = args.map a.eval := by
      rw [Array.extract_append]; simp
    have e0 : (#[a.eval recv] ++ Array.map a.eval args)[0]? = some (a.eval recv) := by
      rw [Array.getElem?_append_left (by simp)]; simp
    have e1 : execOp a.eval o = (do let d ← resolve a.eval { callee := Callee.invoke recv name, args := args, argTypes := ats } o.type; invoke d.target d.args) := by
      unfold execOp; rw [hop]
    have e2 : resolve a.eval { callee := Callee.invoke recv name, args := args, argTypes := ats } o.type = pure { target := .fn (.method name) #[], args := #[a.eval recv] ++ args.map a.eval } := rfl
    have e3 : invoke (.fn (.method name) #[]) (#[a.eval recv] ++ args.map a.eval) = callMethod (a.eval recv) name (args.map a.eval) := by
      show (match (#[a.eval recv] ++ args.map a.eval)[0]? with
        | some r => callMethod r name ((#[a.eval recv] ++ args.map a.eval).extract 1 (#[a.eval recv] ++ args.map a.eval).size)
        | _ => stuck _) = _
      rw [e0]
      exact congrArg (callMethod (a.eval recv) name) ex
    rw [e1, e2]
    show (invoke (.fn (.method name) #[]) (#[a.eval recv] ++ args.map a.eval)).run P w = _
    rw [e3]; exact hrun
  unfold Oper.wp
  rw [e, Oper.upon_enter]
  refine h.mono ?_
  intro en w'' hen
  cases en with
  | returned v => exact hK' _ _ hen
  | panicked c => exact hen
  | outgrown => exact hen



/-- The pending lines' block: line r's parts lie in block G r. -/
def Pend (w : World) (pb n : Nat) (G L : Nat → Nat) : Prop := ∃ c, Blk w pb c 56 ∧ c.size = n * 10 ∧ ∀ r, r < n → c[r * 10 + 7]? = some (.slice (some ⟨G r, 0, none⟩) (L r) (L r))

theorem Pend.cell {w : World} {pb n : Nat} {G L : Nat → Nat} (h : Pend w pb n G L) {r : Nat} (hr : r < n) : w.cell? ⟨pb, r * 10 + 7, none⟩ = some (.slice (some ⟨G r, 0, none⟩) (L r) (L r)) := by
  obtain ⟨c, hb, _, hc⟩ := h
  rw [hb.cell]; exact hc r hr

/-- Of w only the blocks in S have turned; none is new. -/
structure Only (S : Nat → Prop) (w w' : World) : Prop where
  os : w'.os = w.os
  tape : w'.tape = w.tape
  output : w'.output = w.output
  size : w'.heap.size = w.heap.size
  block : ∀ k, ¬ S k → w'.heap[k]? = w.heap[k]?

theorem Only.refl (S : Nat → Prop) (w : World) : Only S w w := ⟨rfl, rfl, rfl, rfl, fun _ _ => rfl⟩
theorem Only.drewN {S : Nat → Prop} {w w' : World} (h : Only S w w') (n : Nat) : Only S w (w'.drewN n) := ⟨h.os, h.tape, h.output, h.size, h.block⟩
theorem Only.setCell {S : Nat → Prop} {w w' : World} (h : Only S w w') {a : Addr} (ha : S a.block) (v : Value) : Only S w (w'.setCell a v) :=
  ⟨h.os, h.tape, h.output, by simpa using h.size, fun k hk => by rw [Below.heap_setCell _ _ _ _ (fun e => hk (by rw [e]; exact ha))]; exact h.block k hk⟩
theorem Only.but {S : Nat → Prop} {w w' w'' : World} (h : Only S w w') {g : Nat} (hb : But g w' w'') (hg : S g) : Only S w w'' :=
  ⟨hb.os.trans h.os, hb.tape.trans h.tape, hb.output.trans h.output, hb.size.trans h.size, fun k hk => (hb.block k (fun e => hk (by rw [e]; exact hg))).trans (h.block k hk)⟩
theorem Only.cell {S : Nat → Prop} {w w' : World} (h : Only S w w') {a : Addr} (ha : ¬ S a.block) : w'.cell? a = w.cell? a := World.cell?_of_block (w := w) (h.block a.block ha)
theorem Only.blk {S : Nat → Prop} {w w' : World} (h : Only S w w') {k : Nat} {c : Array Value} {t : TypeId} (hb : Blk w k c t) (hk : ¬ S k) : Blk w' k c t := by
  unfold Blk at *; rw [h.block k hk]; exact hb
theorem Only.prow {S : Nat → Prop} {w w' : World} (h : Only S w w') {k m : Nat} {D : Nat → Part} (hb : PRow w k m D) (hk : ¬ S k) : PRow w' k m D := by
  obtain ⟨c, h1, r⟩ := hb; exact ⟨c, h.blk h1 hk, r⟩
theorem Only.pend {S : Nat → Prop} {w w' : World} (h : Only S w w') {k n : Nat} {G L : Nat → Nat} (hb : Pend w k n G L) (hk : ¬ S k) : Pend w' k n G L := by
  obtain ⟨c, h1, r⟩ := hb; exact ⟨c, h.blk h1 hk, r⟩
theorem Only.files {S : Nat → Prop} {B : Nat} {w w' : World} (h : Only S w w') (hF : Files B w) (hS : ∀ k, S k → B + 5 ≤ k) : Files B w' := fun k a b => h.blk (hF k a b) (fun s => by have := hS _ s; omega)
theorem Only.mono {S T : Nat → Prop} {w w' : World} (h : Only S w w') (hs : ∀ k, S k → T k) : Only T w w' := ⟨h.os, h.tape, h.output, h.size, fun k hk => h.block k (fun s => hk (hs k s))⟩
theorem Only.trans {S : Nat → Prop} {a b c : World} (h : Only S a b) (k : Only S b c) : Only S a c := ⟨k.os.trans h.os, k.tape.trans h.tape, k.output.trans h.output, k.size.trans h.size, fun i hi => (k.block i hi).trans (h.block i hi)⟩

/-- What is known of the pending lines ahead of Continue. -/
structure Lines (B pb n : Nat) (G L : Nat → Nat) (K : Nat → Nat → Nat) (D : Nat → Nat → Part) (w : World) : Prop where
  files : Files B w
  pend : Pend w pb n G L
  rows : ∀ r, r < n → PRow w (G r) (L r) (D r)
  kind : ∀ r, r < n → ∀ j, j < L r → K r j < 5 ∧ (D r j).file = fptr B (K r j)
  inj : ∀ r, r < n → ∀ s, s < n → G r = G s → r = s
  past : ∀ r, r < n → pb < G r
  pbB : B + 5 ≤ pb
  nle : n ≤ 1024
  lle : ∀ r, r < n → L r ≤ 1024

/-- The state in mid-loop: of the first k lines the places are forgotten. -/
structure Mid (n : Nat) (G L : Nat → Nat) (K : Nat → Nat → Nat) (D : Nat → Nat → Part) (l : Nat) (w1 : World) (k : Nat) (w : World) : Prop where
  rows : ∀ r, r < n → PRow w (G r) (L r) (fun j => if r < k then left (K r) (D r) l j else D r j)
  only : Only (fun k => ∃ r, r < n ∧ k = G r) w1 w

theorem left_zero (K : Nat → Nat) (D : Nat → Part) (j : Nat) : left K D 0 j = D j := by
  have : sameB (K j) 0 = false := by simp [sameB]
  simp [left, this]

theorem mid_step {B pb n : Nat} {G L : Nat → Nat} {K : Nat → Nat → Nat} {D : Nat → Nat → Part} {l : Nat} {w w1 wr w2 : World} {k : Nat} (H : Lines B pb n G L K D w) (hk : k < n)
    (M : Mid n G L K D l w1 k wr) (hrow : PRow w2 (G k) (L k) (left (K k) (D k) l)) (hbut : But (G k) wr w2) : Mid n G L K D l w1 (k + 1) w2 := by
  refine ⟨fun r hr => ?_, M.only.but hbut ⟨k, hk, rfl⟩⟩
  by_cases e : r = k
  · subst e
    exact hrow.congr (fun j _ => by simp)
  · have := hbut.prow (M.rows r hr) (fun e' => e (H.inj r hr k hk e'))
    exact this.congr (fun j _ => by
      by_cases h1 : r < k
      · simp [h1, show r < k + 1 by omega]
      · simp [h1, show ¬ r < k + 1 by omega])

/-- the contract of 'leave' at line k of the middle state -/
theorem leave_mid {B pb n : Nat} {G L : Nat → Nat} {K : Nat → Nat → Nat} {D : Nat → Nat → Part} {l sb : Nat} {w w1 wr : World} {k : Nat} (H : Lines B pb n G L K D w) (hw1 : Only (fun k => k = sb) w w1) (hl : l < 5) (hl0 : l ≠ 0) (hk : k < n)
    (d3 : pb < sb) (M : Mid n G L K D l w1 k wr) :
    Calls Yba.prog 8 #[.pointer (some ⟨pb, k * 10, none⟩), .pointer (some ⟨B + l, 0, none⟩)] wr fun e w' => e = .returned (.tuple #[]) ∧ Mid n G L K D l w1 (k + 1) w' := by
  have h0 : Only (fun k => k = sb ∨ ∃ r, r < n ∧ k = G r) w wr := (hw1.mono (fun k h => Or.inl h)).trans (M.only.mono (fun k h => Or.inr h))
  have hF : Files B wr := h0.files H.files (by
    rintro k (rfl | ⟨r, hr, rfl⟩)
    · have := H.pbB; omega
    · have := H.past r hr; have := H.pbB; omega)
  have hP : Pend wr pb n G L := h0.pend H.pend (by
    rintro (h | ⟨r, hr, h⟩)
    · omega
    · have := H.past r hr; omega)
  have hR := M.rows k hk
  have hR' : PRow wr (G k) (L k) (D k) := hR.congr (fun j _ => by simp)
  have := leave_any hF l hl hl0 pb k (G k) (L k) (D k) (K k) (H.kind k hk) (H.lle k hk) (hP.cell hk) (by have := H.past k hk; omega) (by have := H.past k hk; have := H.pbB; omega) hR'
  rw [show fptr B l = .pointer (some ⟨B + l, 0, none⟩) by simp [fptr, hl0]] at this
  exact this.mono (fun e w' ⟨he, hrow, hbut⟩ => ⟨he, mid_step H hk M hrow hbut⟩)

/-- What Continue leaves. -/
structure After (n pb : Nat) (G L : Nat → Nat) (K : Nat → Nat → Nat) (D : Nat → Nat → Part) (l lb nb sb : Nat) (w w' : World) : Prop where
  r : w'.cell? ⟨lb, 0, none⟩ = some (.iface 65 (.pointer (some ⟨nb, 0, none⟩)))
  p : w'.cell? ⟨lb, 1, none⟩ = some (.slice (some ⟨pb, 0, none⟩) n n)
  rows : ∀ r, r < n → PRow w' (G r) (L r) (left (K r) (D r) l)
  only : Only (fun k => k = lb ∨ k = sb ∨ ∃ r, r < n ∧ k = G r) w w'

theorem after_mk {n pb : Nat} {G L : Nat → Nat} {K : Nat → Nat → Nat} {D : Nat → Nat → Part} {l lb nb sb : Nat} {w w1 wr : World} (hw1 : Only (fun k => k = sb) w w1)
    (d1 : ∀ r, r < n → G r < sb) (d2 : sb < lb) (M : Mid n G L K D l w1 n wr) {v : Value} (h0 : w1.cell? ⟨lb, 0, none⟩ = some v) (h1 : w1.cell? ⟨lb, 1, none⟩ = some (.slice (some ⟨pb, 0, none⟩) n n)) :
    After n pb G L K D l lb nb sb w (wr.setCell ⟨lb, 0, none⟩ (.iface 65 (.pointer (some ⟨nb, 0, none⟩)))) := by
  have hn : ∀ a, wr.cell? ⟨lb, a, none⟩ = w1.cell? ⟨lb, a, none⟩ := fun a => M.only.cell (by
    rintro ⟨r, hr, h⟩; have := d1 r hr; simp at h; omega)
  refine ⟨World.cell?_setCell_same _ _ _ ((hn 0).trans h0), ?_, fun r hr => ?_, ?_⟩
  · rw [World.cell?_setCell_other _ _ _ _ (by simp)]; exact (hn 1).trans h1
  · have := (M.rows r hr).setOther (a := ⟨lb, 0, none⟩) (by have := d1 r hr; simp; omega) (.iface 65 (.pointer (some ⟨nb, 0, none⟩)))
    exact this.congr (fun j _ => by simp [hr])
  · refine Only.setCell ?_ (Or.inl rfl) _
    exact (hw1.mono (fun k h => Or.inr (Or.inl h))).trans (M.only.mono (fun k h => Or.inr (Or.inr h)))

theorem mid_start {B pb n : Nat} {G L : Nat → Nat} {K : Nat → Nat → Nat} {D : Nat → Nat → Part} {l sb : Nat} {w w1 : World} (H : Lines B pb n G L K D w) (hw1 : Only (fun k => k = sb) w w1) (d1 : ∀ r, r < n → G r < sb) : Mid n G L K D l w1 0 w1 :=
  ⟨fun r hr => (hw1.prow (H.rows r hr) (by have := d1 r hr; omega)).congr (fun j _ => by simp), Only.refl _ _⟩

theorem mid_zero {B pb n : Nat} {G L : Nat → Nat} {K : Nat → Nat → Nat} {D : Nat → Nat → Part} {sb : Nat} {w w1 : World} (H : Lines B pb n G L K D w) (hw1 : Only (fun k => k = sb) w w1) (d1 : ∀ r, r < n → G r < sb) : Mid n G L K D 0 w1 n w1 :=
  ⟨fun r hr => (hw1.prow (H.rows r hr) (by have := d1 r hr; omega)).congr (fun j _ => by simp [left_zero]), Only.refl _ _⟩

set_option maxHeartbeats 1000000 in
set_option maxRecDepth 100000 in
theorem cont57 {B pb n : Nat} {G L : Nat → Nat} {K : Nat → Nat → Nat} {D : Nat → Nat → Part} {w : World} (H : Lines B pb n G L K D w)
    (l : Nat) (hl : l < 5) (lb nb sb : Nat) (h0 : w.cell? ⟨lb, 0, none⟩ = some (.iface 57 (.pointer (some ⟨sb, 0, none⟩)))) (h1 : w.cell? ⟨lb, 1, none⟩ = some (.slice (some ⟨pb, 0, none⟩) n n))
    (fz : w.frozen? ⟨lb, 0, none⟩ = false) (hs : Blk w sb #[fptr B l, .int .i64 0] 59)
    (d1 : ∀ r, r < n → G r < sb) (d2 : sb < lb) (d3 : pb < sb) :
    Calls Yba.prog 6 #[.pointer (some ⟨lb, 0, none⟩), .pointer (some ⟨nb, 0, none⟩)] w fun e w' => e = .returned (.tuple #[]) ∧
      w'.cell? ⟨sb, 1, none⟩ = some (.int .i64 1) ∧ After n pb G L K D l lb nb sb w w' := by
  have hn := H.nle
  have hw1 : Only (fun k => k = sb) w (w.setCell ⟨sb, 1, none⟩ (.int .i64 1)) := Only.setCell (S := fun k => k = sb) (a := ⟨sb, 1, none⟩) (Only.refl _ _) rfl _
  have g0 : (w.setCell ⟨sb, 1, none⟩ (.int .i64 1)).cell? ⟨lb, 0, none⟩ = some (.iface 57 (.pointer (some ⟨sb, 0, none⟩))) := (hw1.cell (by simp; omega)).trans h0
  have g1 : (w.setCell ⟨sb, 1, none⟩ (.int .i64 1)).cell? ⟨lb, 1, none⟩ = some (.slice (some ⟨pb, 0, none⟩) n n) := (hw1.cell (by simp; omega)).trans h1
  have g2 : (w.setCell ⟨sb, 1, none⟩ (.int .i64 1)).cell? ⟨sb, 1, none⟩ = some (.int .i64 1) := World.cell?_setCell_same _ _ _ ((hs.cell 1).trans rfl)
  have gz : (w.setCell ⟨sb, 1, none⟩ (.int .i64 1)).frozen? ⟨lb, 0, none⟩ = false := by simp [fz]
  have tok : True := trivial
  by_cases hl0 : l = 0
  · subst hl0
    have hM := mid_zero H hw1 d1
    have hA := after_mk (nb := nb) hw1 d1 d2 hM g0 g1
    have hsb : ((w.setCell ⟨sb, 1, none⟩ (.int .i64 1)).setCell ⟨lb, 0, none⟩ (.iface 65 (.pointer (some ⟨nb, 0, none⟩)))).cell? ⟨sb, 1, none⟩ = some (.int .i64 1) := by
      rw [World.cell?_setCell_other _ _ _ _ (by simp)]; exact g2
    have hs0 : Blk w sb #[.pointer none, .int .i64 0] 59 := hs
    clear hs hM hw1 H
    go_enter Yba.func6, Yba.ntmps6
    go_wp2_with (have _t := tok; refine wpList_invoke _ rfl _ _ _ _ rfl (.iface 57 (.pointer (some ⟨sb, 0, none⟩))) rfl #[] (by simp) 29 #[.pointer (some ⟨sb, 0, none⟩)] ?_ ?_; kernel_rfl; refine (source29 sb _ 0 w hs0 rfl).mono ?_; rintro e w' ⟨rfl, rfl⟩; clear tok)
    go_end0
    exact ⟨rfl, hsb, hA⟩
  · have e1 : fptr B l = .pointer (some ⟨B + l, 0, none⟩) := by simp [fptr, hl0]
    rw [e1] at hs
    clear e1
    have hM0 := mid_start (l := l) H hw1 d1
    go_enter Yba.func6, Yba.ntmps6
    go_wp2_with (have _t := tok; refine wpList_invoke _ rfl _ _ _ _ rfl (.iface 57 (.pointer (some ⟨sb, 0, none⟩))) rfl #[] (by simp) 29 #[.pointer (some ⟨sb, 0, none⟩)] ?_ ?_; kernel_rfl; refine (source29 sb _ 0 w hs rfl).mono ?_; rintro e w' ⟨rfl, rfl⟩; clear tok)
    go_loopw [18] (fun c wr => ∃ k : Nat, k ≤ n ∧ c = .int .i64 k ∧ Mid n G L K D l (w.setCell ⟨sb, 1, none⟩ (.int .i64 1)) k wr) (fun c _ => n - (intOf c).toNat)
    case atStart => exact ⟨0, Nat.zero_le _, rfl, hM0⟩
    case round =>
      obtain ⟨k, hk, rfl, hM⟩ := hrel
      have q1 : wr.cell? ⟨lb, 1, none⟩ = some (.slice (some ⟨pb, 0, none⟩) n n) := (hM.only.cell (by rintro ⟨r, hr, h⟩; have := d1 r hr; simp at h; omega)).trans g1
      have q0 : wr.cell? ⟨lb, 0, none⟩ = some (.iface 57 (.pointer (some ⟨sb, 0, none⟩))) := (hM.only.cell (by rintro ⟨r, hr, h⟩; have := d1 r hr; simp at h; omega)).trans g0
      have qz : wr.frozen? ⟨lb, 0, none⟩ = false := (World.frozen?_of_block (w := w.setCell ⟨sb, 1, none⟩ (.int .i64 1)) (hM.only.block lb (by rintro ⟨r, hr, h⟩; have := d1 r hr; omega))).trans gz
      by_cases hlt : k < n
      · have HC := leave_mid H hw1 hl hl0 hlt d3 hM
        go_wp2_with (go_at_call 8; refine HC.mono ?_; rintro e w' ⟨rfl, hM'⟩)
        go_roundw
        case rel => exact ⟨k + 1, by omega, by go_num, hM'⟩
        case measure => simp [intOf]; omega
      · have : k = n := by omega
        subst this
        have hA := after_mk (nb := nb) hw1 d1 d2 hM g0 g1
        have hsb : (wr.setCell ⟨lb, 0, none⟩ (.iface 65 (.pointer (some ⟨nb, 0, none⟩)))).cell? ⟨sb, 1, none⟩ = some (.int .i64 1) := by
          rw [World.cell?_setCell_other _ _ _ _ (by simp)]
          exact (hM.only.cell (by rintro ⟨r, hr, h⟩; have := d1 r hr; simp at h; omega)).trans g2
        go_wp2
        go_end0
        exact ⟨rfl, hsb, hA⟩

set_option maxHeartbeats 1000000 in
set_option maxRecDepth 100000 in
theorem cont65 {B pb n : Nat} {G L : Nat → Nat} {K : Nat → Nat → Nat} {D : Nat → Nat → Part} {w : World} (H : Lines B pb n G L K D w)
    (l : Nat) (hl : l < 5) (lb nb sb rk : Nat) (h0 : w.cell? ⟨lb, 0, none⟩ = some (.iface 65 (.pointer (some ⟨rk, 0, none⟩)))) (h1 : w.cell? ⟨lb, 1, none⟩ = some (.slice (some ⟨pb, 0, none⟩) n n))
    (fz : w.frozen? ⟨lb, 0, none⟩ = false) (hs : w.cell? ⟨rk, 50, none⟩ = some (fptr B l))
    (d1 : ∀ r, r < n → G r < sb) (d2 : sb < lb) (d3 : pb < sb) :
    Calls Yba.prog 6 #[.pointer (some ⟨lb, 0, none⟩), .pointer (some ⟨nb, 0, none⟩)] w fun e w' => e = .returned (.tuple #[]) ∧
      After n pb G L K D l lb nb sb w w' := by
  have hn := H.nle
  have hw1 : Only (fun k => k = sb) w w := Only.refl _ _
  have g0 := h0
  have g1 := h1
  have gz := fz
  have tok : True := trivial
  by_cases hl0 : l = 0
  · subst hl0
    have hM := mid_zero H hw1 d1
    have hA := after_mk (nb := nb) hw1 d1 d2 hM g0 g1
    have hs0 : w.cell? ⟨rk, 50, none⟩ = some (.pointer none) := hs
    clear hs hM hw1 H
    go_enter Yba.func6, Yba.ntmps6
    go_wp2_with (have _t := tok; refine wpList_invoke _ rfl _ _ _ _ rfl (.iface 65 (.pointer (some ⟨rk, 0, none⟩))) rfl #[] (by simp) 36 #[.pointer (some ⟨rk, 0, none⟩)] ?_ ?_; kernel_rfl; refine (source36 rk _ w hs0).mono ?_; rintro e w' ⟨rfl, hw'⟩; obtain rfl := hw'.symm; clear tok)
    go_end0
    exact ⟨rfl, hA⟩
  · have e1 : fptr B l = .pointer (some ⟨B + l, 0, none⟩) := by simp [fptr, hl0]
    rw [e1] at hs
    clear e1
    have hM0 := mid_start (l := l) H hw1 d1
    go_enter Yba.func6, Yba.ntmps6
    go_wp2_with (have _t := tok; refine wpList_invoke _ rfl _ _ _ _ rfl (.iface 65 (.pointer (some ⟨rk, 0, none⟩))) rfl #[] (by simp) 36 #[.pointer (some ⟨rk, 0, none⟩)] ?_ ?_; kernel_rfl; refine (source36 rk _ w hs).mono ?_; rintro e w' ⟨rfl, hw'⟩; obtain rfl := hw'.symm; clear tok)
    go_loopw [18] (fun c wr => ∃ k : Nat, k ≤ n ∧ c = .int .i64 k ∧ Mid n G L K D l w k wr) (fun c _ => n - (intOf c).toNat)
    case atStart => exact ⟨0, Nat.zero_le _, rfl, hM0⟩
    case round =>
      obtain ⟨k, hk, rfl, hM⟩ := hrel
      have q1 : wr.cell? ⟨lb, 1, none⟩ = some (.slice (some ⟨pb, 0, none⟩) n n) := (hM.only.cell (by rintro ⟨r, hr, h⟩; have := d1 r hr; simp at h; omega)).trans g1
      have q0 : wr.cell? ⟨lb, 0, none⟩ = some (.iface 65 (.pointer (some ⟨rk, 0, none⟩))) := (hM.only.cell (by rintro ⟨r, hr, h⟩; have := d1 r hr; simp at h; omega)).trans g0
      have qz : wr.frozen? ⟨lb, 0, none⟩ = false := (World.frozen?_of_block (w := w) (hM.only.block lb (by rintro ⟨r, hr, h⟩; have := d1 r hr; omega))).trans gz
      by_cases hlt : k < n
      · have HC := leave_mid H hw1 hl hl0 hlt d3 hM
        go_wp2_with (go_at_call 8; refine HC.mono ?_; rintro e w' ⟨rfl, hM'⟩)
        go_roundw
        case rel => exact ⟨k + 1, by omega, by go_num, hM'⟩
        case measure => simp [intOf]; omega
      · have : k = n := by omega
        subst this
        have hA := after_mk (nb := nb) hw1 d1 d2 hM g0 g1
        go_wp2
        go_end0
        exact ⟨rfl, hA⟩

end Go.Proofs.Ybulkomw
