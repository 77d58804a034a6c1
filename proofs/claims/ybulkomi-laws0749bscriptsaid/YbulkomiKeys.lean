/-
  The keys of the script law: relationships (16), relations of entities (4), attributes (4).
-/
import Derived.Test.YbulkomiMap
import Derived.ProofKit
namespace Go.Proofs.Ybulkomi
open Go.RowKit

def bidS (b : Nat) : ByteArray := if b = 0 then ⟨#[49]⟩ else ⟨#[50]⟩
def rnS (b : Nat) : ByteArray := if b = 0 then ⟨#[114]⟩ else ⟨#[115]⟩
def docS : ByteArray := ⟨#[100, 111, 99]⟩
def userS : ByteArray := ⟨#[117, 115, 101, 114]⟩
def mS (k : Nat) : ByteArray := if k / 8 % 2 = 1 then ⟨#[109]⟩ else ⟨#[]⟩
def nmS (b : Nat) : ByteArray := if b / 2 = 1 then ⟨#[98]⟩ else ⟨#[97]⟩

/-- relationship k; entityRelation kk; attribute a -/
def relC (k : Nat) : Array Value := #[.string docS, .string (bidS (k % 2)), .string (rnS (k / 2 % 2)), .string userS, .string (bidS (k / 4 % 2)), .string (mS k)]
def relV (k : Nat) : Value := .agg (relC k)
def erC (q : Nat) : Array Value := #[.string docS, .string (bidS (q % 2)), .string (rnS (q / 2 % 2))]
def erV (q : Nat) : Value := .agg (erC q)
def atC (a : Nat) : Array Value := #[.string docS, .string (bidS (a % 2)), .string (nmS a)]
def atV (a : Nat) : Value := .agg (atC a)

theorem laidOutM : laidOutB Yba.prog = true := by kernel_rfl

theorem law54 : WideMaps.KeyLaw Yba.prog 54 := deep_law_laid laidOutM (m := 6) (by omega) (of_decide_eq_true (by kernel_rfl)) (by kernel_rfl) (by kernel_rfl)
theorem law82 : WideMaps.KeyLaw Yba.prog 82 := deep_law_laid laidOutM (m := 6) (by omega) (of_decide_eq_true (by kernel_rfl)) (by kernel_rfl) (by kernel_rfl)
theorem law57 : WideMaps.KeyLaw Yba.prog 57 := deep_law_laid laidOutM (m := 6) (by omega) (of_decide_eq_true (by kernel_rfl)) (by kernel_rfl) (by kernel_rfl)

theorem all_lt {N : Nat} {p : Nat → Bool} (h : (List.range N).all p = true) : ∀ i, i < N → p i = true := fun i hi => List.all_eq_true.1 h i (List.mem_range.2 hi)

def sbv : Value → Nat
  | .string s => (s.data.getD 0 0).toNat
  | _ => 0
def cdv (f : Array Value → Nat) : Value → Nat
  | .agg cs => f cs
  | _ => 0

theorem kok54 : KOk Yba.prog 54 relV 16 := by
  refine ⟨law54, fun i hi => ?_, fun i j hi hj e => ?_⟩
  · have h : (List.range 16).all (fun i => (keyOf Yba.prog 54 (relV i)).isSome) = true := by kernel_rfl
    exact Option.isSome_iff_exists.1 (all_lt h i hi)
  · have h : (List.range 16).all (fun i => cdv (fun cs => (sbv (cs.getD 1 undef) - 49) + 2 * (sbv (cs.getD 2 undef) - 114) + 4 * (sbv (cs.getD 4 undef) - 49) + (if sbv (cs.getD 5 undef) = 109 then 8 else 0)) (relV i) == i) = true := by kernel_rfl
    have h1 := all_lt h i hi
    have h2 := all_lt h j hj
    simp only [beq_iff_eq] at h1 h2
    rw [← h1, ← h2, e]

theorem kok82 : KOk Yba.prog 82 erV 4 := by
  refine ⟨law82, fun i hi => ?_, fun i j hi hj e => ?_⟩
  · have h : (List.range 4).all (fun i => (keyOf Yba.prog 82 (erV i)).isSome) = true := by kernel_rfl
    exact Option.isSome_iff_exists.1 (all_lt h i hi)
  · have h : (List.range 4).all (fun i => cdv (fun cs => (sbv (cs.getD 1 undef) - 49) + 2 * (sbv (cs.getD 2 undef) - 114)) (erV i) == i) = true := by kernel_rfl
    have h1 := all_lt h i hi
    have h2 := all_lt h j hj
    simp only [beq_iff_eq] at h1 h2
    rw [← h1, ← h2, e]

theorem kok57 : KOk Yba.prog 57 atV 4 := by
  refine ⟨law57, fun i hi => ?_, fun i j hi hj e => ?_⟩
  · have h : (List.range 4).all (fun i => (keyOf Yba.prog 57 (atV i)).isSome) = true := by kernel_rfl
    exact Option.isSome_iff_exists.1 (all_lt h i hi)
  · have h : (List.range 4).all (fun i => cdv (fun cs => (sbv (cs.getD 1 undef) - 49) + 2 * (sbv (cs.getD 2 undef) - 97)) (atV i) == i) = true := by kernel_rfl
    have h1 := all_lt h i hi
    have h2 := all_lt h j hj
    simp only [beq_iff_eq] at h1 h2
    rw [← h1, ← h2, e]

theorem er_of_rel (k : Nat) : erV (k % 4) = .agg #[.string docS, .string (bidS (k % 2)), .string (rnS (k / 2 % 2))] := by
  have h1 : k % 4 % 2 = k % 2 := by omega
  have h2 : k % 4 / 2 % 2 = k / 2 % 2 := by omega
  simp [erV, erC, h1, h2]

/-! ### laws at the operations -/
theorem wpList_put {P : Program} (w : World) {ops : Array Oper} {rest : List Oper} {o : Oper} {a : Act} {Q : Exit → Act → World → Prop}
    (hg : o.guard = none) (m x v : Operand) (T : TypeId) (hop : o.op = Op.mapUpdate T m x v) {t e : TypeId} {K : Nat → Value} {N : Nat} (k : KOk P t K N) (hT : P.underlying T = some (.map t e)) {mb : Nat} {L : List Nat} {V : Nat → Value}
    (hm : a.eval m = .map (some mb)) (h : Mf N K w mb L V) {i : Nat} (hi : i < N) (hx : a.eval x = K i) {val : Value} (hv : a.eval v = val)
    (hK : ∀ w', Mf N K w' mb (putK L i) (putV V i val) → Fr (fun k => k = mb) w w' → wpList P ops Q rest (a.put o.dst undef) w') : wpList P ops Q (o :: rest) a w := by
  refine wpList_plain hg fun K' hK' => ?_
  obtain ⟨w', hrun, r1, r2⟩ := h.put k hT hi val
  unfold Oper.wp
  simp [execOp, hop, hm, hx, hv, hrun, Result.andThen]
  exact hK' _ _ (hK w' r1 r2)

theorem wpList_del {P : Program} (w : World) {ops : Array Oper} {rest : List Oper} {o : Oper} {a : Act} {Q : Exit → Act → World → Prop}
    (hg : o.guard = none) (m x : Operand) (T : TypeId) {t : TypeId} (hop : o.op = Op.call { callee := Callee.builtin Builtin.delete, args := #[m, x], argTypes := #[T, t] }) {e : TypeId} {K : Nat → Value} {N : Nat} (k : KOk P t K N) (hT : P.underlying T = some (.map t e)) {mb : Nat} {L : List Nat} {V : Nat → Value}
    (hm : a.eval m = .map (some mb)) (h : Mf N K w mb L V) {i : Nat} (hi : i < N) (hx : a.eval x = K i)
    (hK : ∀ w', Mf N K w' mb (L.filter (fun x => decide (x ≠ i))) V → Fr (fun k => k = mb) w w' → wpList P ops Q rest (a.put o.dst (.tuple #[])) w') : wpList P ops Q (o :: rest) a w := by
  refine wpList_plain hg fun K' hK' => ?_
  obtain ⟨w', hrun, r1, r2⟩ := h.del k hT hi o.type
  unfold Oper.wp
  simp [execOp, hop, resolve, invoke, builtin, hm, hx, hrun, Result.andThen]
  exact hK' _ _ (hK w' r1 r2)

theorem step_put {P : Program} {ops : Array Oper} {o : Oper} {a : Act} {w : World} {K' : Act → World → Prop} {Q : Exit → Act → World → Prop} {E : Prop}
    (hg : o.guard = none) (m x v : Operand) (T : TypeId) (hop : o.op = Op.mapUpdate T m x v) {t e : TypeId} {K : Nat → Value} {N : Nat} (k : KOk P t K N) (hT : P.underlying T = some (.map t e)) {mb : Nat} {L : List Nat} {V : Nat → Value}
    (hm : a.eval m = .map (some mb)) (h : Mf N K w mb L V) {i : Nat} (hi : i < N) (hx : a.eval x = K i) {val : Value} (hv : a.eval v = val)
    (hK : ∀ w', Mf N K w' mb (putK L i) (putV V i val) → Fr (fun k => k = mb) w w' → K' (a.put o.dst undef) w') : if Region.wanted o (yielded ops a.tmps) = true then Oper.wp P o a w K' Q else E := by
  have hw : Region.wanted o (yielded ops a.tmps) = true := by simp [Region.wanted, hg]
  rw [if_pos hw]
  obtain ⟨w', hrun, r1, r2⟩ := h.put k hT hi val
  unfold Oper.wp
  simp [execOp, hop, hm, hx, hv, hrun, Result.andThen]
  exact hK w' r1 r2

theorem step_del {P : Program} {ops : Array Oper} {o : Oper} {a : Act} {w : World} {K' : Act → World → Prop} {Q : Exit → Act → World → Prop} {E : Prop}
    (hg : o.guard = none) (m x : Operand) (T : TypeId) {t : TypeId} (hop : o.op = Op.call { callee := Callee.builtin Builtin.delete, args := #[m, x], argTypes := #[T, t] }) {e : TypeId} {K : Nat → Value} {N : Nat} (k : KOk P t K N) (hT : P.underlying T = some (.map t e)) {mb : Nat} {L : List Nat} {V : Nat → Value}
    (hm : a.eval m = .map (some mb)) (h : Mf N K w mb L V) {i : Nat} (hi : i < N) (hx : a.eval x = K i)
    (hK : ∀ w', Mf N K w' mb (L.filter (fun x => decide (x ≠ i))) V → Fr (fun k => k = mb) w w' → K' (a.put o.dst (.tuple #[])) w') : if Region.wanted o (yielded ops a.tmps) = true then Oper.wp P o a w K' Q else E := by
  have hw : Region.wanted o (yielded ops a.tmps) = true := by simp [Region.wanted, hg]
  rw [if_pos hw]
  obtain ⟨w', hrun, r1, r2⟩ := h.del k hT hi o.type
  unfold Oper.wp
  simp [execOp, hop, resolve, invoke, builtin, hm, hx, hrun, Result.andThen]
  exact hK w' r1 r2

end Go.Proofs.Ybulkomi
