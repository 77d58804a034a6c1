/-
  slices.BinarySearchFunc over the slots (of entities).
-/
import Derived.Test.YbulkomiLAdd
namespace Go.Proofs.Ybulkomi
open Go.RowKit

def cmpI (a b : Nat) : Int := if a < b then -1 else if b < a then 1 else 0

set_option maxHeartbeats 1000000 in
theorem cmp_any (a b : Nat) (w : World) : Calls Yba.prog 32 #[.int .u64 a, .int .u64 b] w fun r w' => r = .returned (.int .i64 (cmpI a b)) ∧ w = w' := by
  unfold cmpI
  by_cases h1 : a < b
  · go_enter Yba.func32, Yba.ntmps32
    go_wp2
    go_ret
    exact ⟨rfl, rfl⟩
  · by_cases h2 : b < a
    · go_enter Yba.func32, Yba.ntmps32
      go_wp2
      go_ret
      exact ⟨rfl, rfl⟩
    · go_enter Yba.func32, Yba.ntmps32
      go_wp2
      go_ret
      exact ⟨rfl, rfl⟩

set_option maxHeartbeats 1000000 in
theorem clo31 (a b : Nat) (x y : ByteArray) (w : World) : Calls Yba.prog 31 #[.agg #[.int .u64 a, .string x, .string y], .int .u64 b] w fun r w' => r = .returned (.int .i64 (cmpI a b)) ∧ w' = w.alloc (.cells #[.int .u64 a, .string x, .string y] 76) := by
  go_enter Yba.func31, Yba.ntmps31
  go_wp2_with (go_at_call 32; refine (cmp_any a b _).mono ?_; rintro r w' ⟨rfl, hw⟩; obtain rfl := hw)
  go_wp2
  go_ret
  exact ⟨rfl, rfl⟩

theorem slC_shape (s : Slot) : ∃ x y, slC s = [.int .u64 s.1, .string x, .string y] := by
  rcases s with ⟨p, _ | k⟩
  · exact ⟨_, _, rfl⟩
  · exact ⟨_, _, rfl⟩

/-- The slots in a block. -/
def Sl (w : World) (g : Nat) (S : List Slot) : Prop := ∃ cur, Blk w g cur 76 ∧ cur.toList.take (S.length * 3) = flat S
theorem Sl.at {w : World} {g : Nat} {S : List Slot} (h : Sl w g S) {i : Nat} (hi : i < S.length) : ∃ x y, slC S[i] = [.int .u64 S[i].1, .string x, .string y] ∧ w.cell? ⟨g, i * 3, none⟩ = some (.int .u64 S[i].1) ∧ w.cell? ⟨g, i * 3 + 1, none⟩ = some (.string x) ∧ w.cell? ⟨g, i * 3 + 2, none⟩ = some (.string y) := by
  obtain ⟨cur, hb, ht⟩ := h
  obtain ⟨x, y, hs⟩ := slC_shape S[i]
  have key : ∀ j, j < 3 → w.cell? ⟨g, i * 3 + j, none⟩ = (slC S[i])[j]? := fun j hj => by
    rw [hb.cell, ← Array.getElem?_toList, ← flat_at S i S[i] (List.getElem?_eq_getElem hi) j hj, ← ht, List.getElem?_take_of_lt (by omega)]
  refine ⟨x, y, hs, ?_, ?_, ?_⟩
  · have := key 0 (by omega)
    rw [hs] at this
    simpa using this
  · have := key 1 (by omega)
    rw [hs] at this
    simpa using this
  · have := key 2 (by omega)
    rw [hs] at this
    simpa using this
theorem Sl.fr {w w' : World} {g : Nat} {S : List Slot} (h : Sl w g S) (hf : Fr (fun _ => False) w w') : Sl w' g S := by
  obtain ⟨cur, hb, ht⟩ := h
  exact ⟨cur, hf.blk hb (fun s => s), ht⟩

/-- places grow -/
def Asc (S : List Slot) : Prop := ∀ i j, i < j → (hj : j < S.length) → ∀ (hi : i < S.length), S[i].1 < S[j].1

set_option maxHeartbeats 2000000 in
theorem bsearch {w : World} {g n cap : Nat} {S : List Slot} (h : Sl w g S) (hn : n = S.length) (hs : Asc S) (hlen : n ≤ 100000) {i0 : Nat} (hi0 : i0 < S.length) {p : Nat} (hp : S[i0].1 = p) :
    Calls Yba.prog 30 #[.slice (some ⟨g, 0, none⟩) n cap, .int .u64 p, .func (.func 31) #[] #[]] w fun r w' => r = .returned (.tuple #[.int .i64 i0, .bool true]) ∧ Fr (fun _ => False) w w' := by
  subst hn
  go_enter Yba.func30, Yba.ntmps30
  go_wp2
  go_loopw [9, 10] (fun a b wr => ∃ i j : Nat, i ≤ i0 ∧ i0 ≤ j ∧ j ≤ S.length ∧ a = .int .i64 i ∧ b = .int .i64 j ∧ Fr (fun _ => False) w wr) (fun a b _ => (intOf b).toNat - (intOf a).toNat)
  case atStart => exact ⟨0, S.length, by omega, by omega, Nat.le_refl _, rfl, rfl, Fr.refl _ _⟩
  case round =>
    obtain ⟨i, j, h1, h2, h3, rfl, rfl, hf⟩ := hrel
    by_cases hlt : i < j
    · have hm : (i + j) / 2 < S.length := by omega
      obtain ⟨x, y, hsl, c0, c1, c2⟩ := (h.fr hf).at hm
      by_cases hc : (i + j) / 2 < i0
      · have hcmp : cmpI S[(i + j) / 2].1 p = -1 := by
          have := hs _ i0 hc hi0 hm
          rw [hp] at this
          simp [cmpI, this]
        generalize S[(i + j) / 2].1 = pl at *
        go_wp2_with (go_at_call 31; refine (clo31 pl p x y _).mono ?_; rintro r w' ⟨rfl, rfl⟩)
        go_roundw
        case rel => exact ⟨(i + j) / 2 + 1, j, by omega, h2, h3, by go_num, rfl, hf.alloc _⟩
        case measure => simp [intOf]; omega
      · have hcmp : ¬ cmpI S[(i + j) / 2].1 p < 0 := by
          have hge : p ≤ S[(i + j) / 2].1 := by
            by_cases e : (i + j) / 2 = i0
            · have : S[(i + j) / 2].1 = S[i0].1 := by simp [e]
              omega
            · have := hs i0 ((i + j) / 2) (by omega) hm hi0
              omega
          unfold cmpI
          split
          · omega
          · split <;> omega
        generalize S[(i + j) / 2].1 = pl at *
        generalize hcv : cmpI pl p = cv at *
        have HC := fun w => clo31 pl p x y w
        rw [hcv] at HC
        go_wp2_with (go_at_call 31; refine (HC _).mono ?_; rintro r w' ⟨rfl, rfl⟩)
        go_wp2
        go_roundw
        case rel => exact ⟨i, (i + j) / 2, h1, by omega, by omega, rfl, by go_num, hf.alloc _⟩
        case measure => simp [intOf]; omega
    · have hij : i = i0 := by omega
      subst hij
      obtain ⟨x, y, hsl, c0, c1, c2⟩ := (h.fr hf).at hi0
      have hcmp : cmpI S[i].1 p = 0 := by simp [cmpI, hp]
      generalize S[i].1 = pl at *
      have HC := fun w => clo31 pl p x y w
      rw [hcmp] at HC
      go_wp2_with (go_at_call 31; refine (HC _).mono ?_; rintro r w' ⟨rfl, rfl⟩)
      go_wp2
      go_ret2
      exact ⟨rfl, hf.alloc _⟩

end Go.Proofs.Ybulkomi
