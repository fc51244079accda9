/-
  WALKS of the pattern functions, second part: the two looks at sizes: zzFits9 (8), smallPattern (9).
-/
import Derived.Test.YthbdcekcockhfaaPatA
namespace Go.Proofs.Ythbdcekcockhfaa.Pat
open Go.RowKit

/-- a slice value that reads as a list of strings -/
def StrsAt (w : World) (v : Value) (l : List ByteArray) : Prop :=
  ∃ a c, v = .slice a l.length c ∧ l.length ≤ 9223372036854775807 ∧
    (l = [] ∨ ∃ b o, a = some ⟨b, o, none⟩ ∧ ∀ i, i < l.length → w.cell? ⟨b, o + i, none⟩ = some (.string (l.getD i ByteArray.empty)))

def fitsB (l : List ByteArray) : Bool := decide (l.length ≤ 2147483647 ∧ ∀ i, i < l.length → (l.getD i ByteArray.empty).size ≤ 2147483647)
theorem fits_no {l : List ByteArray} (k : Nat) (h : k < l.length) (h' : 2147483647 < (l.getD k ByteArray.empty).size) : fitsB l = false := by
  unfold fitsB; rw [decide_eq_false_iff_not]; rintro ⟨_, h2⟩; have := h2 k h; omega
theorem fits_no' {l : List ByteArray} (h : 2147483647 < l.length) : fitsB l = false := by
  unfold fitsB; rw [decide_eq_false_iff_not]; rintro ⟨_, h2⟩; omega
theorem fits_yes {l : List ByteArray} (h : l.length ≤ 2147483647) (h' : ∀ i, i < l.length → (l.getD i ByteArray.empty).size ≤ 2147483647) : fitsB l = true := by
  unfold fitsB; rw [decide_eq_true_iff]; exact ⟨h, h'⟩

set_option maxHeartbeats 400000 in
theorem fits8 (v : Value) (l : List ByteArray) (w : World) (hv : StrsAt w v l) :
    Calls Try.prog 8 #[v] w fun e w' => e = .returned (.bool (fitsB l)) ∧ w' = w := by
  obtain ⟨a, c, rfl, hm, hl⟩ := hv
  rcases hl with rfl | ⟨b, o, rfl, hc⟩
  · have HF := Lib.hid (show fitsB [] = true from fits_yes (by simp) (by simp))
    go_enter Try.func8, Try.ntmps8
    go_wp2
    refine wp_loop_rounds 1 ?_
    rw [rounds_succ]
    go_wp2
    go_ret
    rw [HF.out]
    exact ⟨rfl, rfl⟩
  · by_cases hbig : 2147483647 < l.length
    · have HF := Lib.hid (fits_no' hbig)
      go_enter Try.func8, Try.ntmps8
      go_wp2
      go_ret
      rw [HF.out]
      exact ⟨rfl, rfl⟩
    · have HC := Lib.hid hc
      clear hc
      go_enter Try.func8, Try.ntmps8
      go_wp2
      go_loop [10] (fun i => ∃ k : Nat, k ≤ l.length ∧ i = .int .i64 k ∧ ∀ j, j < k → (l.getD j ByteArray.empty).size ≤ 2147483647) (fun i => l.length - (intOf i).toNat)
      case atStart => exact ⟨0, Nat.zero_le _, rfl, by intro j h; omega⟩
      case round =>
        obtain ⟨k, hk, rfl, hj⟩ := hrel
        have HJ := Lib.hid hj
        clear hj
        by_cases hlt : k < l.length
        · have hcell := HC.out k hlt
          by_cases hs : 2147483647 < (l.getD k ByteArray.empty).size
          · have HF := Lib.hid (fits_no k hlt hs)
            generalize l.getD k ByteArray.empty = x at *
            go_wp2
            go_ret
            rw [HF.out]
            exact ⟨rfl, rfl⟩
          · have HJ2 := Lib.hid (show ∀ j, j < k + 1 → (l.getD j ByteArray.empty).size ≤ 2147483647 from fun j h => by
              by_cases h2 : j = k
              · subst h2; omega
              · exact HJ.out j (by omega))
            generalize l.getD k ByteArray.empty = x at hcell hs
            go_wp2
            go_round
            case rel => exact ⟨k + 1, by omega, by go_num, HJ2.out⟩
            case measure => simp [intOf]; omega
        · have HF := Lib.hid (fits_yes (by omega) (fun i h => HJ.out i (by omega)))
          go_wp2
          go_ret
          rw [HF.out]
          exact ⟨rfl, rfl⟩

def smallB (l : List ByteArray) : Bool := decide (1 ≤ l.length ∧ l.length ≤ 12 ∧ ∀ i, i < l.length → (l.getD i ByteArray.empty).size ≤ 20)
theorem small_no {l : List ByteArray} (k : Nat) (h : k < l.length) (h' : 20 < (l.getD k ByteArray.empty).size) : smallB l = false := by
  unfold smallB; rw [decide_eq_false_iff_not]; rintro ⟨_, _, h2⟩; have := h2 k h; omega
theorem small_len {l : List ByteArray} (h : l.length < 1 ∨ 12 < l.length) : smallB l = false := by
  unfold smallB; rw [decide_eq_false_iff_not]; rintro ⟨_, _, h2⟩; omega
theorem small_yes {l : List ByteArray} (h1 : 1 ≤ l.length) (h : l.length ≤ 12) (h' : ∀ i, i < l.length → (l.getD i ByteArray.empty).size ≤ 20) : smallB l = true := by
  unfold smallB; rw [decide_eq_true_iff]; exact ⟨h1, h, h'⟩

set_option maxHeartbeats 400000 in
theorem small9 (v : Value) (l : List ByteArray) (w : World) (hv : StrsAt w v l) :
    Calls Try.prog 9 #[v] w fun e w' => e = .returned (.bool (smallB l)) ∧ w' = w := by
  obtain ⟨a, c, rfl, hm, hl⟩ := hv
  rcases hl with rfl | ⟨b, o, rfl, hc⟩
  · have HF := Lib.hid (show smallB [] = false from small_len (by simp))
    go_enter Try.func9, Try.ntmps9
    go_wp2
    refine wp_loop_rounds 1 ?_
    rw [rounds_succ]
    go_wp2
    go_ret
    rw [HF.out]
    exact ⟨rfl, rfl⟩
  · have HC := Lib.hid hc
    clear hc
    go_enter Try.func9, Try.ntmps9
    go_wp2
    go_loop [3] (fun i => ∃ k : Nat, k ≤ l.length ∧ i = .int .i64 k ∧ ∀ j, j < k → (l.getD j ByteArray.empty).size ≤ 20) (fun i => l.length - (intOf i).toNat)
    case atStart => exact ⟨0, Nat.zero_le _, rfl, by intro j h; omega⟩
    case round =>
      obtain ⟨k, hk, rfl, hj⟩ := hrel
      have HJ := Lib.hid hj
      clear hj
      by_cases hlt : k < l.length
      · have hcell := HC.out k hlt
        by_cases hs : 20 < (l.getD k ByteArray.empty).size
        · have HF := Lib.hid (small_no k hlt hs)
          generalize l.getD k ByteArray.empty = x at *
          go_wp2
          go_ret
          rw [HF.out]
          exact ⟨rfl, rfl⟩
        · have HJ2 := Lib.hid (show ∀ j, j < k + 1 → (l.getD j ByteArray.empty).size ≤ 20 from fun j h => by
            by_cases h2 : j = k
            · subst h2; omega
            · exact HJ.out j (by omega))
          generalize l.getD k ByteArray.empty = x at hcell hs
          go_wp2
          go_round
          case rel => exact ⟨k + 1, by omega, by go_num, HJ2.out⟩
          case measure => simp [intOf]; omega
      · by_cases h12 : 12 < l.length
        · have HF := Lib.hid (small_len (.inr h12))
          by_cases h1 : 1 ≤ l.length
          · go_wp2
            go_ret
            rw [HF.out]
            exact ⟨congrArg (fun b => Ending.returned (Value.bool b)) (decide_eq_false (by omega)), rfl⟩
          · omega
        · by_cases h1 : 1 ≤ l.length
          · have HF := Lib.hid (small_yes h1 (by omega) (fun i h => HJ.out i (by omega)))
            go_wp2
            go_ret
            rw [HF.out]
            exact ⟨congrArg (fun b => Ending.returned (Value.bool b)) (decide_eq_true (by omega)), rfl⟩
          · have HF := Lib.hid (small_len (l := l) (.inl (by omega)))
            go_wp2
            go_ret
            rw [HF.out]
            exact ⟨rfl, rfl⟩
end Go.Proofs.Ythbdcekcockhfaa.Pat
