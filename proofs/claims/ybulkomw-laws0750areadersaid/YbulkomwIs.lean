/-
  (*file).is, zzs0750aid, the two source methods.
-/
import Derived.Test.YbulkomwBase
namespace Go.Proofs.Ybulkomw
open Go.RowKit

theorem info34 : ∃ j, Yba.prog.info? 34 = some j ∧ j.size ≠ 0 := by
  have h : (Yba.prog.info? 34).map (fun i => (i.zero, i.size, i.bytes)) = some (some (.agg #[.nilIface, .pointer none, .pointer none]), 3, 32) := by kernel_rfl
  obtain ⟨i, hi, _, hs, _⟩ := info_parts h
  exact ⟨i, hi, by rw [hs]; decide⟩
theorem info28 : ∃ j, Yba.prog.info? 28 = some j ∧ j.size ≠ 0 := by
  have h : (Yba.prog.info? 28).map (fun i => (i.zero, i.size, i.bytes)) = some (some (.agg #[.int .u8 0]), 1, 1) := by kernel_rfl
  obtain ⟨i, hi, _, hs, _⟩ := info_parts h
  exact ⟨i, hi, by rw [hs]; decide⟩

/-- one pointer against itself -/
theorem eql29_same (a : Addr) (w : World) : (binOp .eql 29 (.pointer (some a)) (.pointer (some a))).run Yba.prog w = .ok (.bool true) w := by
  obtain ⟨j, hj, _⟩ := info34
  exact run_eql_ptr_same w a Yba.underlying29 hj
theorem eql26_same (a : Addr) (w : World) : (binOp .eql 26 (.pointer (some a)) (.pointer (some a))).run Yba.prog w = .ok (.bool true) w := by
  obtain ⟨j, hj, _⟩ := info28
  exact run_eql_ptr_same w a Yba.underlying26 hj
theorem eql29_other {w : World} {a b : Nat} {ca cb : Array Value} {ta tb : TypeId} (ha : Blk w a ca ta) (hb : Blk w b cb tb) (hne : a ≠ b) (n : Nat) :
    (binOp .eql 29 (.pointer (some ⟨a, 0, none⟩)) (.pointer (some ⟨b, 0, none⟩))).run Yba.prog (w.drewN n) = .ok (.bool false) (w.drewN n) := by
  obtain ⟨j, hj, hs⟩ := info34
  exact run_eql_ptr_other (w.drewN n) Yba.underlying29 hj hs (fun e => hne (congrArg Addr.block e)) (ha.drewN n) (hb.drewN n)
theorem eql29_nil_left (b : Addr) (w : World) : (binOp .eql 29 (.pointer none) (.pointer (some b))).run Yba.prog w = .ok (.bool false) w := by kernel_rfl
theorem eql26_nil_right (b : Addr) (w : World) : (binOp .eql 26 (.pointer (some b)) (.pointer none)).run Yba.prog w = .ok (.bool false) w := by kernel_rfl

set_option maxHeartbeats 400000 in
theorem is_same (a : Addr) (w : World) : Calls Yba.prog 9 #[.pointer (some a), .pointer (some a)] w fun e w' => e = .returned (.bool true) ∧ ∃ n, w' = w.drewN n := by
  have h1 := eql29_same a
  go_enter Yba.func9, Yba.ntmps9
  go_wp2
  go_quiet (fail)
  go_wp2
  go_ret
  exact ⟨rfl, _, rfl⟩

set_option maxHeartbeats 400000 in
theorem is_nil (b : Addr) (w : World) : Calls Yba.prog 9 #[.pointer none, .pointer (some b)] w fun e w' => e = .returned (.bool false) ∧ ∃ n, w' = w.drewN n := by
  have h1 := eql29_nil_left b
  go_enter Yba.func9, Yba.ntmps9
  go_wp2
  go_quiet (fail)
  go_wp2
  go_ret
  exact ⟨rfl, _, rfl⟩

set_option maxHeartbeats 400000 in
/-- two files, the first without an id -/
theorem is_noid {w : World} {a b : Nat} {ca cb : Array Value} {ta tb : TypeId} (ha : Blk w a ca ta) (hb : Blk w b cb tb) (hne : a ≠ b) (hid : ca[1]? = some (.pointer none)) :
    Calls Yba.prog 9 #[.pointer (some ⟨a, 0, none⟩), .pointer (some ⟨b, 0, none⟩)] w fun e w' => e = .returned (.bool false) ∧ ∃ n, w' = w.drewN n := by
  have h1 := eql29_other ha hb hne
  have h2 : w.cell? ⟨a, 1, none⟩ = some (.pointer none) := (ha.cell 1).trans hid
  clear ha hb hid
  go_enter Yba.func9, Yba.ntmps9
  go_wp2
  go_quiet (fail)
  go_wp2
  go_ret
  exact ⟨rfl, _, rfl⟩

set_option maxHeartbeats 400000 in
/-- two files, the first with an id, the second without -/
theorem is_id_no {w : World} {a b : Nat} {i : Addr} {ca cb : Array Value} {ta tb : TypeId} (ha : Blk w a ca ta) (hb : Blk w b cb tb) (hne : a ≠ b) (hid : ca[1]? = some (.pointer (some i))) (hjd : cb[1]? = some (.pointer none)) :
    Calls Yba.prog 9 #[.pointer (some ⟨a, 0, none⟩), .pointer (some ⟨b, 0, none⟩)] w fun e w' => e = .returned (.bool false) ∧ ∃ n, w' = w.drewN n := by
  have h1 := eql29_other ha hb hne
  have h2 : w.cell? ⟨a, 1, none⟩ = some (.pointer (some i)) := (ha.cell 1).trans hid
  have h3 : w.cell? ⟨b, 1, none⟩ = some (.pointer none) := (hb.cell 1).trans hjd
  have h4 := eql26_nil_right i
  clear ha hb hid hjd
  go_enter Yba.func9, Yba.ntmps9
  go_wp2
  go_quiet (fail)
  go_wp2
  go_ret
  exact ⟨rfl, _, rfl⟩

set_option maxHeartbeats 400000 in
/-- two files of one id -/
theorem is_id_yes {w : World} {a b : Nat} {i : Addr} {ca cb : Array Value} {ta tb : TypeId} (ha : Blk w a ca ta) (hb : Blk w b cb tb) (hne : a ≠ b) (hid : ca[1]? = some (.pointer (some i))) (hjd : cb[1]? = some (.pointer (some i))) :
    Calls Yba.prog 9 #[.pointer (some ⟨a, 0, none⟩), .pointer (some ⟨b, 0, none⟩)] w fun e w' => e = .returned (.bool true) ∧ ∃ n, w' = w.drewN n := by
  have h1 := eql29_other ha hb hne
  have h2 : w.cell? ⟨a, 1, none⟩ = some (.pointer (some i)) := (ha.cell 1).trans hid
  have h3 : w.cell? ⟨b, 1, none⟩ = some (.pointer (some i)) := (hb.cell 1).trans hjd
  have h4 := eql26_same i
  clear ha hb hid hjd
  go_enter Yba.func9, Yba.ntmps9
  go_wp2
  go_quiet (fail)
  go_wp2
  go_ret
  exact ⟨rfl, _, rfl⟩


/-! ### The five files of the law -/

/-- The k-th file's pointer: none, or the block B + k. -/
def fptr (B k : Nat) : Value := .pointer (if k = 0 then none else some ⟨B + k, 0, none⟩)
def fidp (B k : Nat) : Option Addr := if k = 1 ∨ k = 2 then some ⟨B, 0, none⟩ else none
/-- Files 1 and 2 are one; each is itself. -/
def sameB (k l : Nat) : Bool := k != 0 && (k == l || (k == 1 || k == 2) && (l == 1 || l == 2))

def Files (B : Nat) (w : World) : Prop := ∀ k, 1 ≤ k → k ≤ 4 → Blk w (B + k) #[.nilIface, .pointer (fidp B k), .pointer none] 34

theorem Files.alloc {B : Nat} {w : World} (h : Files B w) (o : Obj) : Files B (w.alloc o) := fun k a b => (h k a b).alloc o
theorem Files.drewN {B : Nat} {w : World} (h : Files B w) (n : Nat) : Files B (w.drewN n) := fun k a b => (h k a b).drewN n
theorem Files.drew {B : Nat} {w : World} (h : Files B w) : Files B w.drew := fun k a b => (h k a b).drew
theorem Files.below {B C : Nat} {w w' : World} (h : Files B w) (hb : Below C w w') (hc : B + 5 ≤ C) : Files B w' := fun k a b => (h k a b).below hb (by omega)
theorem Files.setCell {B : Nat} {w : World} (h : Files B w) {a : Addr} (ha : B + 5 ≤ a.block) (v : Value) : Files B (w.setCell a v) := fun k x y => (h k x y).setOther (by omega) v

theorem is_any {B : Nat} {w : World} (h : Files B w) (k l : Nat) (hk : k < 5) (hl : l < 5) (hl0 : l ≠ 0) :
    Calls Yba.prog 9 #[fptr B k, fptr B l] w fun e w' => e = .returned (.bool (sameB k l)) ∧ ∃ n, w' = w.drewN n := by
  have el : fptr B l = .pointer (some ⟨B + l, 0, none⟩) := by simp [fptr, hl0]
  have hL := h l (by omega) (by omega)
  rw [el]
  by_cases hk0 : k = 0
  · subst hk0
    exact is_nil _ _
  have ek : fptr B k = .pointer (some ⟨B + k, 0, none⟩) := by simp [fptr, hk0]
  rw [ek]
  have hK := h k (by omega) (by omega)
  by_cases hkl : k = l
  · subst hkl
    have : sameB k k = true := by simp [sameB, hk0]
    rw [this]
    exact is_same _ _
  have hne : B + k ≠ B + l := by omega
  by_cases h12 : k = 1 ∨ k = 2
  · by_cases l12 : l = 1 ∨ l = 2
    · have : sameB k l = true := by rcases h12 with rfl | rfl <;> rcases l12 with rfl | rfl <;> rfl
      rw [this]
      exact is_id_yes (i := ⟨B, 0, none⟩) hK hL hne (by simp [fidp, h12]) (by simp [fidp, l12])
    · have : sameB k l = false := by
        have a1 : (l == 1) = false := by simp; omega
        have a2 : (l == 2) = false := by simp; omega
        simp [sameB, hkl, a1, a2]
      rw [this]
      exact is_id_no (i := ⟨B, 0, none⟩) hK hL hne (by simp [fidp, h12]) (by simp [fidp, l12])
  · have : sameB k l = false := by
      have a1 : (k == 1) = false := by simp; omega
      have a2 : (k == 2) = false := by simp; omega
      simp [sameB, hkl, a1, a2]
    rw [this]
    exact is_noid hK hL hne (by simp [fidp, h12])

set_option maxHeartbeats 400000 in
/-- zzs0750aid -/
theorem id_any (k : Int) (w : World) : Calls Yba.prog 7 #[.int .i64 k] w fun e w' => e = .returned (.int .i64 (if k = 1 ∨ k = 2 then 1 else 0)) ∧ w' = w := by
  by_cases h1 : k = 1
  · subst h1
    go_enter Yba.func7, Yba.ntmps7
    go_wp2
    go_ret
    exact ⟨rfl, rfl⟩
  · by_cases h2 : k = 2
    · subst h2
      go_enter Yba.func7, Yba.ntmps7
      go_wp2
      go_ret
      exact ⟨rfl, rfl⟩
    · have e1 : (k == 1) = false := by simp [h1]
      have e2 : (k == 2) = false := by simp [h2]
      have e3 : (if k = 1 ∨ k = 2 then (1 : Int) else 0) = 0 := by simp [h1, h2]
      rw [e3]
      clear e3
      go_enter Yba.func7, Yba.ntmps7
      go_wp2
      go_ret
      exact ⟨rfl, rfl⟩

set_option maxHeartbeats 400000 in
/-- the stand-in's source: counts, gives its file -/
theorem source29 (g : Nat) (f : Value) (c : Int) (w : World) (h : Blk w g #[f, .int .i64 c] 59) (hc : c = 0) :
    Calls Yba.prog 29 #[.pointer (some ⟨g, 0, none⟩)] w fun e w' => e = .returned f ∧ w' = w.setCell ⟨g, 1, none⟩ (.int .i64 1) := by
  subst hc
  have h0 := h.cell 0
  have h1 := h.cell 1
  have f1 := h.frozen 1
  simp at h0 h1
  clear h
  go_enter Yba.func29, Yba.ntmps29
  go_wp2
  go_ret
  exact ⟨rfl, rfl⟩

set_option maxHeartbeats 400000 in
/-- the Reader's source -/
theorem source36 (g : Nat) (f : Value) (w : World) (h : w.cell? ⟨g, 50, none⟩ = some f) :
    Calls Yba.prog 36 #[.pointer (some ⟨g, 0, none⟩)] w fun e w' => e = .returned f ∧ w' = w := by
  go_enter Yba.func36, Yba.ntmps36
  go_wp2
  go_ret
  exact ⟨rfl, rfl⟩

end Go.Proofs.Ybulkomw
