/-
  WALKS of the reference's reader of durations: signedOr (24), duration (13), ParseDuration (9).
-/
import Derived.Test.YthbdcekcockhfaaDoorB
namespace Go.Proofs.YthbdcekcockhfaaDoor.Dur
open Go.RowKit

theorem signed24 (n : Int) (b : Bool) (w : World) (h1 : -9223372036854775808 < n) (h2 : n ≤ 0) :
    Calls Tryd.prog 24 #[.int .i64 n, .bool b] w fun e w' => e = .returned (.tuple #[.int .i64 (if b then n else -n), .bool true]) ∧ w' = w := by
  cases b with
  | true =>
    go_enter Tryd.func24, Tryd.ntmps24
    go_wp2
    go_ret2
    exact ⟨rfl, rfl⟩
  | false =>
    have h3 : (n != -9223372036854775808) = true := by rw [bne_iff_ne]; omega
    go_enter Tryd.func24, Tryd.ntmps24
    go_wp2
    go_ret2
    exact ⟨rfl, rfl⟩

def sgn (neg : Bool) (m : Nat) : Int := if neg then -(m : Int) else m
/-- a text's sign and what is behind it -/
def cut (s : List UInt8) : Bool × List UInt8 := match s with | 45 :: r => (true, r) | s => (false, s)
/-- the duration that a text is -/
def durO (s : List UInt8) : Option Int := if (cut s).2 = [] then none else (PD.goP 0 0 0 false (cut s).2).map (sgn (cut s).1)
def durV (s : List UInt8) : Value := match durO s with | some n => .tuple #[.int .i64 n, .bool true] | none => .tuple #[.int .i64 0, .bool false]

theorem takeWhile_take (p : UInt8 → Bool) (l : List UInt8) : l.take (l.takeWhile p).length = l.takeWhile p := by
  conv => lhs; arg 2; rw [← List.takeWhile_append_dropWhile (p := p) (l := l)]
  rw [List.take_left]
theorem dropWhile_drop (p : UInt8 → Bool) (l : List UInt8) : l.drop (l.takeWhile p).length = l.dropWhile p := by
  conv => lhs; arg 2; rw [← List.takeWhile_append_dropWhile (p := p) (l := l)]
  rw [List.drop_left]

/-- one pair of digits and a unit, as the reference reads it -/
theorem spP_step (f u N : Nat) (x : List UInt8) (hx : x ≠ []) : PD.spP (f + 1) u N x =
    match PD.unitOf ((x.dropWhile PD.dig).takeWhile PD.low) with
    | none => none
    | some k => if x.takeWhile PD.dig = [] ∨ k < u then none else if PD.lim < PD.val (x.takeWhile PD.dig) then none else if PD.lim < PD.val (x.takeWhile PD.dig) * PD.size k then none
      else if PD.lim < N + PD.val (x.takeWhile PD.dig) * PD.size k then none else PD.spP f (k + 1) (N + PD.val (x.takeWhile PD.dig) * PD.size k) ((x.dropWhile PD.dig).dropWhile PD.low) := by
  conv => lhs; unfold PD.spP
  rw [if_neg hx]
  rfl

theorem durV_none {s : List UInt8} (h : durO s = none) : durV s = .tuple #[.int .i64 0, .bool false] := by unfold durV; rw [h]
theorem durV_some {s : List UInt8} {n : Int} (h : durO s = some n) : durV s = .tuple #[.int .i64 n, .bool true] := by unfold durV; rw [h]

/-- how the relation of the reference's loop reads -/
def SpRel (t : List UInt8) (x : ByteArray) (N u : Nat) : Prop :=
  u ≤ 5 ∧ N ≤ 9223372036854775808 ∧ ∃ f, x.size < f ∧ PD.spP f u N (bs x) = PD.spP (t.length + 1) 0 0 t

theorem rel_none {t : List UInt8} {neg : Bool} {s : List UInt8} (hc : cut s = (neg, t)) (ht : t ≠ []) (h : PD.spP (t.length + 1) 0 0 t = none ∨ PD.spP (t.length + 1) 0 0 t = some 9223372036854775808) : durV s = .tuple #[.int .i64 0, .bool false] := by
  apply durV_none
  unfold durO
  rw [hc]
  simp only [if_neg ht, Option.map_eq_none_iff]
  rw [PD.goP_spP (t.length + 1) t (by omega)]
  rcases h with h | h <;> rw [h] <;> simp [PD.lim]
theorem rel_some {t : List UInt8} {neg : Bool} {s : List UInt8} {m : Nat} (hc : cut s = (neg, t)) (ht : t ≠ []) (h : PD.spP (t.length + 1) 0 0 t = some m) (hm : m ≠ 9223372036854775808) : durV s = .tuple #[.int .i64 (sgn neg m), .bool true] := by
  apply durV_some
  unfold durO
  rw [hc]
  simp only [if_neg ht]
  rw [PD.goP_spP (t.length + 1) t (by omega), h]
  simp [PD.lim, hm]
  exact ⟨m, ⟨rfl, decide_eq_true hm⟩, rfl⟩
end Go.Proofs.YthbdcekcockhfaaDoor.Dur
