/-
  THE WALKS for LawS0749AScalars: each callee by a contract of its own (exact worlds).
-/
import Derived.Test.YbulkomiProg
import Derived.WalkKit
import Derived.WalkSpells
import Derived.WalkLawsBesides
namespace Go.Proofs.Ybulkomi
open Go.RowKit

theorem grown_trans {a b c : World} (h : Grown a b) (k : Grown b c) : Grown a c :=
  ⟨World.keptBut_trans h.1 k.1, fun x => (k.2.1 x).trans (h.2.1 x), Nat.le_trans h.2.2 k.2.2⟩

set_option maxHeartbeats 400000 in
/-- Value.Kind -/
theorem kind_any (k b : Int) (s : ByteArray) (w : World) :
    Calls Yba.prog 19 #[.agg #[.int .u8 k, .int .u64 b, .string s, .slice none 0 0, .slice none 0 0]] w fun e w' => e = .returned (.int .u8 k) ∧ w' = w.alloc (.cells #[.int .u8 k, .int .u64 b, .string s, .slice none 0 0, .slice none 0 0] 30) := by
  go_enter Yba.func19, Yba.ntmps19
  go_wp2
  go_ret
  exact ⟨rfl, rfl⟩

set_option maxHeartbeats 400000 in
/-- Value.find on a value without members. -/
theorem find_any (k b : Int) (s n : ByteArray) (w : World) :
    Calls Yba.prog 23 #[.agg #[.int .u8 k, .int .u64 b, .string s, .slice none 0 0, .slice none 0 0], .string n] w fun e w' => e = .returned (.int .i64 (-1)) ∧ w' = w.alloc (.cells #[.int .u8 k, .int .u64 b, .string s, .slice none 0 0, .slice none 0 0] 30) := by
  go_enter Yba.func23, Yba.ntmps23
  go_wp2
  refine wp_loop_rounds 1 ?_
  rw [rounds_succ]
  go_wp2
  go_ret
  exact ⟨rfl, rfl⟩

set_option maxHeartbeats 400000 in
/-- StringValue -/
theorem strval_any (s : ByteArray) (w : World) :
    Calls Yba.prog 7 #[.string s] w fun e w' => e = .returned (.agg #[.int .u8 4, .int .u64 0, .string s, .slice none 0 0, .slice none 0 0]) ∧ Grown w w' := by
  go_enter Yba.func7, Yba.ntmps7
  go_wp2
  refine bodyPost_ret (v := .agg #[.int .u8 4, .int .u64 0, .string s, .slice none 0 0, .slice none 0 0]) (by simp [results, Yba.results7, go_sem]) rfl ⟨rfl, ?_⟩
  repeat (first | exact Grown.refl _ | apply Grown.drew | apply Grown.alloc | apply Grown.setCell)


set_option maxHeartbeats 400000 in
/-- Value.Lookup of one name, on a value without members. -/
theorem lookup_any (k b : Int) (s : ByteArray) (n : ByteArray) (g : Nat) (w : World) (hg : w.cell? ⟨g, 0, none⟩ = some (.string n)) (hlt : g < w.heap.size) :
    Calls Yba.prog 20 #[.agg #[.int .u8 k, .int .u64 b, .string s, .slice none 0 0, .slice none 0 0], .slice (some ⟨g, 0, none⟩) 1 1] w fun e w' =>
      e = .returned (.agg #[.int .u8 0, .int .u64 0, .string ByteArray.empty, .slice none 0 0, .slice none 0 0]) ∧ Grown w w' := by
  have h1 : ∀ o p, ((w.alloc o).alloc p).cell? ⟨g, 0, none⟩ = some (.string n) := by
    intro o p
    rw [World.cell?_alloc_past _ _ _ (by show g < (w.heap.push o).size; simp; omega), World.cell?_alloc_past _ _ _ hlt]; exact hg
  go_enter Yba.func20, Yba.ntmps20
  go_wp2
  refine wp_loop_rounds 1 ?_
  rw [rounds_succ]
  go_wp2_with (go_at_call 23; refine (find_any _ _ _ _ _).mono ?_; rintro e w' ⟨rfl, rfl⟩)
  refine bodyPost_ret (v := .agg #[.int .u8 0, .int .u64 0, .string ByteArray.empty, .slice none 0 0, .slice none 0 0]) (by simp [results, Yba.results20, go_sem]; try rfl) rfl ⟨rfl, ?_⟩
  repeat (first | exact Grown.refl _ | apply Grown.drew | apply Grown.alloc | apply Grown.setCell)

set_option maxHeartbeats 400000 in
/-- ValidateContext at no value: nil. -/
theorem valid_none (w : World) :
    Calls Yba.prog 5 #[.agg #[.int .u8 0, .int .u64 0, .string ByteArray.empty, .slice none 0 0, .slice none 0 0]] w fun e w' => e = .returned .nilIface ∧ Grown w w' := by
  go_enter Yba.func5, Yba.ntmps5
  go_wp2_with (first | (go_at_call 19; refine (kind_any _ _ _ _).mono ?_; rintro e w' ⟨rfl, rfl⟩))
  refine (lookup_any _ _ _ ⟨#[100, 97, 116, 97]⟩ _ _ ?_ ?_).mono ?_
  · simp [go_sem]
  · simp
  rintro e w1 ⟨rfl, hg⟩
  go_wp2_with (first | (go_at_call 19; refine (kind_any _ _ _ _).mono ?_; rintro e w' ⟨rfl, rfl⟩))
  go_ret
  refine ⟨rfl, ?_⟩
  apply Grown.alloc
  refine grown_trans ?_ hg
  repeat (first | exact Grown.refl _ | apply Grown.drew | apply Grown.alloc | apply Grown.setCell)

set_option maxHeartbeats 400000 in
/-- ValidateContext at a string: a FieldError. -/
theorem valid_str (s : ByteArray) (w : World) :
    Calls Yba.prog 5 #[.agg #[.int .u8 4, .int .u64 0, .string s, .slice none 0 0, .slice none 0 0]] w fun e w' => ∃ g, e = .returned (.iface 93 (.pointer (some ⟨g, 0, none⟩))) ∧ w'.cell? ⟨g, 0, none⟩ = some (.string ⟨#[99, 111, 110, 116, 101, 120, 116]⟩) ∧ Grown w w' := by
  go_enter Yba.func5, Yba.ntmps5
  go_wp2_with (first | (go_at_call 19; refine (kind_any _ _ _ _).mono ?_; rintro e w' ⟨rfl, rfl⟩))
  go_ret
  refine ⟨_, rfl, ?_, ?_⟩
  · simp [go_sem]
  repeat (first | exact Grown.refl _ | apply Grown.drew | apply Grown.alloc | apply Grown.setCell)

theorem assert_fe (a : Addr) (w : World) : (Instr.typeAssert (.iface 93 (.pointer (some a))) 23 93 true).run Yba.prog w = .ok (.tuple #[.pointer (some a), .bool true]) w := by kernel_rfl

set_option maxHeartbeats 400000 in
/-- zzs0749afield -/
theorem field_yes (g : Nat) (w : World) (hg : w.cell? ⟨g, 0, none⟩ = some (.string ⟨#[99, 111, 110, 116, 101, 120, 116]⟩)) :
    Calls Yba.prog 6 #[.iface 93 (.pointer (some ⟨g, 0, none⟩)), .string ⟨#[99, 111, 110, 116, 101, 120, 116]⟩] w fun e w' => e = .returned (.bool true) ∧ w' = w := by
  have h1 := assert_fe
  go_enter Yba.func6, Yba.ntmps6
  go_wp2
  go_ret
  exact ⟨rfl, rfl⟩


set_option maxHeartbeats 400000 in
/-- THE WALK of the law. -/
theorem scalars_walk (a0 : ByteArray) (a1 : Bool) (w : World) :
    Calls Yba.prog 3 #[.string a0, .bool a1] w fun e w' => e = .returned (.bool true) ∧ Grown w w' := by
  cases a1
  · go_enter Yba.func3, Yba.ntmps3
    go_wp2_with fail
    refine (strval_any _ _).mono ?_
    rintro e w1 ⟨rfl, hg1⟩
    go_wp2_with fail
    refine (valid_str _ _).mono ?_
    rintro e w2 ⟨g, rfl, hc, hg2⟩
    go_wp2_with fail
    refine (field_yes _ _ hc).mono ?_
    rintro e w3 ⟨rfl, rfl⟩
    go_wp2
    go_ret
    exact ⟨rfl, grown_trans hg1 hg2⟩
  · go_enter Yba.func3, Yba.ntmps3
    go_wp2_with fail
    refine (valid_none _).mono ?_
    rintro e w1 ⟨rfl, hg1⟩
    go_wp2
    go_ret
    exact ⟨rfl, hg1⟩

end Go.Proofs.Ybulkomi
