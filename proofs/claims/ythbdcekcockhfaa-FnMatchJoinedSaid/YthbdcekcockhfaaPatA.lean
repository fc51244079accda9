/-
  WALKS of the pattern functions, first part: matchChunk (19).
-/
import Derived.Test.YthbdcekcockhfaaRows
import Derived.Test.YthbdcekcockhfaaPM
import Derived.WalkKit
import Derived.WalkSpells
import Derived.WalkLawsBesides
import Derived.Deep.QuietTactic
import Derived.BigQuiet
import Derived.Lib.Hide
namespace Go.Proofs.Ythbdcekcockhfaa.Pat
open Go.RowKit

/-- the bytes of a string -/
def bs (s : ByteArray) : List UInt8 := s.data.toList
theorem bs_len (s : ByteArray) : (bs s).length = s.size := by cases s; rfl
theorem bs_ext {s t : ByteArray} (h : bs s = bs t) : s = t := by
  cases s; cases t; simp [bs] at h; rw [h]
theorem bs_tail (s : ByteArray) : bs (s.extract 1 s.size) = (bs s).tail := by
  cases s with
  | mk a => cases a with | mk l => simp only [bs, ByteArray.data_extract, ByteArray.size]; simp; rw [List.take_of_length_le (by simp)]
theorem bs_cons (s : ByteArray) (h : 0 < s.size) : bs s = s[0] :: (bs s).tail := by
  cases s with
  | mk a =>
    cases a with
    | mk l =>
      cases l with
      | nil => simp [ByteArray.size] at h
      | cons x r => rfl
theorem bs_nil (s : ByteArray) (h : s.size = 0) : bs s = [] := List.length_eq_zero_iff.1 (by rw [bs_len]; exact h)

/-- what matchChunk hands back -/
def chunkT (c s : ByteArray) : ByteArray := ⟨((PM.chunk (bs c) (bs s)).getD []).toArray⟩
def chunkB (c s : ByteArray) : Bool := (PM.chunk (bs c) (bs s)).isSome
def chunkV (c s : ByteArray) : Value := .tuple #[.string (chunkT c s), .bool (chunkB c s)]

theorem chunk_done (c s : ByteArray) (h : c.size = 0) : chunkV c s = .tuple #[.string s, .bool true] := by
  have : PM.chunk (bs c) (bs s) = some (bs s) := by rw [bs_nil c h]; rfl
  unfold chunkV chunkT chunkB
  rw [this]
  rfl
theorem chunk_short (c s : ByteArray) (h : 0 < c.size) (hs : s.size = 0) : chunkV c s = .tuple #[.string ⟨#[]⟩, .bool false] := by
  have : PM.chunk (bs c) (bs s) = none := by rw [bs_cons c h, bs_nil s hs]; rfl
  unfold chunkV chunkT chunkB
  rw [this]
  rfl
theorem chunk_other (c s : ByteArray) (h : 0 < c.size) (hs : 0 < s.size) (hne : c[0] ≠ s[0]) : chunkV c s = .tuple #[.string ⟨#[]⟩, .bool false] := by
  have : PM.chunk (bs c) (bs s) = none := by rw [bs_cons c h, bs_cons s hs]; simp [PM.chunk, hne]
  unfold chunkV chunkT chunkB
  rw [this]
  rfl
theorem chunk_next (c s : ByteArray) (h : 0 < c.size) (hs : 0 < s.size) (he : c[0] = s[0]) : chunkV (c.extract 1 c.size) (s.extract 1 s.size) = chunkV c s := by
  have : PM.chunk (bs (c.extract 1 c.size)) (bs (s.extract 1 s.size)) = PM.chunk (bs c) (bs s) := by
    rw [bs_tail, bs_tail]
    conv => rhs; rw [bs_cons c h, bs_cons s hs]
    simp [PM.chunk, he]
  unfold chunkV chunkT chunkB
  rw [this]

def sz : Value → Nat | .string s => s.size | _ => 0

set_option maxHeartbeats 400000 in
theorem chunk19 (c s : ByteArray) (w : World) (hc : c.size ≤ 4611686018427387904) (hs : s.size ≤ 4611686018427387904) :
    Calls Try.prog 19 #[.string c, .string s] w fun e w' => e = .returned (chunkV c s) ∧ ∃ n, w' = w.drewN n := by
  go_enter Try.func19, Try.ntmps19
  go_wp2
  go_loopw [0, 1] (fun c' s' wr => ∃ x y : ByteArray, x.size ≤ 4611686018427387904 ∧ y.size ≤ 4611686018427387904 ∧ c' = .string x ∧ s' = .string y ∧ chunkV x y = chunkV c s ∧ ∃ n, wr = w.drewN n) (fun c' _ _ => sz c')
  case atStart => exact ⟨c, s, hc, hs, rfl, rfl, rfl, 0, rfl⟩
  case round =>
    obtain ⟨x, y, hx, hy, rfl, rfl, hv, n, rfl⟩ := hrel
    have HV := Lib.hid hv
    clear hv
    by_cases h0 : x.size = 0
    · have hv0 := chunk_done x y h0
      have HV0 := Lib.hid hv0
      clear hv0
      have h0' : ¬ (0 : Int) < (x.size : Int) := by omega
      clear h0
      go_wp2
      go_ret2
      rw [← HV.out, HV0.out]
      exact ⟨rfl, n, rfl⟩
    · have h0' : (0 : Int) < (x.size : Int) := by omega
      have h0n : 0 < x.size := by omega
      clear h0
      by_cases h1 : y.size = 0
      · have HV1 := Lib.hid (chunk_short x y h0n h1)
        have h1' : ((y.size : Int) == 0) = true := beq_iff_eq.2 (by omega)
        clear h1
        go_wp2
        go_ret2
        rw [← HV.out, HV1.out]
        exact ⟨rfl, n, rfl⟩
      · have h1n : 0 < y.size := by omega
        have h1' : ((y.size : Int) == 0) = false := beq_eq_false_iff_ne.2 (by omega)
        clear h1
        by_cases h2 : x[0] = y[0]
        · have HV2 := Lib.hid (chunk_next x y h0n h1n h2)
          have h2' : ((x[0].toNat : Int) == (y[0].toNat : Int)) = true := by rw [h2]; simp
          have h2'' : ((x[0].toNat : Int) != (y[0].toNat : Int)) = false := by rw [h2]; simp
          clear h2
          go_wp2
          go_quiet (fail)
          go_wp2
          have e1 : (x.extract 1 x.size).size < x.size := by simp [ByteArray.size_extract]; omega
          have e2 : (y.extract 1 y.size).size < y.size := by simp [ByteArray.size_extract]; omega
          refine ⟨?_, ?_⟩
          · exact ⟨_, _, by omega, by omega, rfl, rfl, HV2.out.trans HV.out, n + nq, by first | rfl | exact World.drewN_drewN _ _ _⟩
          · simp [sz] at e1 ⊢; omega
        · have HV2 := Lib.hid (chunk_other x y h0n h1n h2)
          have h2' : ((x[0].toNat : Int) != (y[0].toNat : Int)) = true := by
            simp; intro h; exact h2 (UInt8.toNat_inj.1 (by omega))
          clear h2
          go_wp2
          go_quiet (fail)
          go_wp2
          go_ret2
          rw [← HV.out, HV2.out]
          exact ⟨rfl, n + nq, by first | rfl | exact World.drewN_drewN _ _ _⟩
end Go.Proofs.Ythbdcekcockhfaa.Pat
