/-
  WALKS of the package's reader of durations, second part: ParseDuration (11). Printed by mkDurF.py.
-/
import Derived.Test.YthbdcekcockhfaaDoorE
import Derived.OneCell
namespace Go.Proofs.YthbdcekcockhfaaDoor.Dur
open Go.RowKit Go.ChangeMaps

/-- how the package's reader ends -/
def PEnd (w : World) (er : Value) (s : List UInt8) (e : Ending) (w' : World) : Prop :=
  e = .returned (.tuple #[.agg #[.int .i64 ((durO s).getD 0)], if (durO s).isNone then er else .nilIface]) ∧ Below w.heap.size w w'
theorem pend_err {w w' : World} {er : Value} {s : List UInt8} (h : durO s = none) (hb : Below w.heap.size w w') : PEnd w er s (.returned (.tuple #[.agg #[.int .i64 0], er])) w' := by
  refine ⟨?_, hb⟩; rw [h]; rfl
theorem pend_ok {w w' : World} {er : Value} {s : List UInt8} {n : Int} (h : durO s = some n) (hb : Below w.heap.size w w') : PEnd w er s (.returned (.tuple #[.agg #[.int .i64 n], .nilIface])) w' := by
  refine ⟨?_, hb⟩; rw [h]; rfl

/-- the world while the reader runs: its result's cell, the error -/
structure PW (w : World) (er : Value) (wr : World) : Prop where
  bel : Below w.heap.size w wr
  res : wr.heap[w.heap.size]? = some (.cells #[.int .i64 0] 36 (0, 0))
  pos : 0 < w.heap.size
  glob : wr.cell? ⟨0, 0, none⟩ = some er
theorem PW.next {w wr w1 : World} {er : Value} (h : PW w er wr) (hb : Below wr.heap.size wr w1) : PW w er w1 := by
  have hl := lt_of_block h.res
  exact ⟨h.bel.trans (hb.mono (by omega)), (hb.block _ hl).trans h.res, h.pos, (hb.cell (p := ⟨0, 0, none⟩) (by have := h.pos; show 0 < _; omega)).trans h.glob⟩

/-! ### how goP goes on -/
theorem goP_full {u tot v : Nat} {h : Bool} {c : UInt8} {r : List UInt8} (hu : 5 ≤ u) : PD.goP u tot v h (c :: r) = none := by rw [PD.goP_cons, if_pos hu]
theorem goP_dig_no {u tot v : Nat} {h : Bool} {c : UInt8} {r : List UInt8} (hu : u < 5) (hd : PD.dig c = true) (hv : 9223372036854775807 < v * 10 + (c.toNat - 48)) : PD.goP u tot v h (c :: r) = none := by
  rw [PD.goP_cons, if_neg (by omega), if_pos hd]; exact if_pos hv
theorem goP_dig {u tot v : Nat} {h : Bool} {c : UInt8} {r : List UInt8} (hu : u < 5) (hd : PD.dig c = true) (hv : ¬ 9223372036854775807 < v * 10 + (c.toNat - 48)) : PD.goP u tot v h (c :: r) = PD.goP u tot (v * 10 + (c.toNat - 48)) true r := by
  rw [PD.goP_cons, if_neg (by omega), if_pos hd]; exact if_neg hv
theorem goP_unit {u tot v : Nat} {h : Bool} {c : UInt8} {r r' : List UInt8} {k : Nat} (hu : u < 5) (hd : PD.dig c = false) (hk : PD.unitG c r = some (k, r')) : PD.goP u tot v h (c :: r) =
    if h = false then none else if k < u then none else if PD.mx < v * PD.size k then none else if PD.mx < tot + v * PD.size k then none else PD.goP (k + 1) (tot + v * PD.size k) 0 false r' := by
  rw [PD.goP_cons, if_neg (by omega), if_neg (by rw [hd]; decide), hk]
theorem goP_other {u tot v : Nat} {h : Bool} {c : UInt8} {r : List UInt8} (hu : u < 5) (hd : PD.dig c = false) (h1 : c.toNat ≠ 100) (h2 : c.toNat ≠ 104) (h3 : c.toNat ≠ 109) (h4 : c.toNat ≠ 115) : PD.goP u tot v h (c :: r) = none := by
  rw [PD.goP_cons, if_neg (by omega), if_neg (by rw [hd]; decide)]
  have e : PD.unitG c r = none := by
    unfold PD.unitG PD.unit1
    have g : ∀ n : Nat, ∀ b : UInt8, b.toNat = n → c.toNat ≠ n → c ≠ b := fun n b hb hn e => hn (by rw [e]; exact hb)
    rw [if_neg (fun x => g 109 109 rfl h3 x.1), if_neg (g 100 100 rfl h1), if_neg (g 104 104 rfl h2), if_neg (g 109 109 rfl h3), if_neg (g 115 115 rfl h4)]
    rfl
  rw [e]
theorem un_ne (k q : Nat) (hk : k < 5) (hq : q < 5) (h : ¬ q = k) : ((uname k).toList == (uname q).toList) = false := by
  rw [bsE, bsE]
  have H : ∀ k q : Fin 5, ¬ q.val = k.val → (bs (uname k.val) == bs (uname q.val)) = false := by decide
  exact H ⟨k, hk⟩ ⟨q, hq⟩ h
theorem un_eq (k : Nat) : ((uname k).toList == (uname k).toList) = true := by simp
theorem zero2 (w : World) : (zeroValue 2).run Tryd.prog w = .ok (.int .i64 0) w := by kernel_rfl
theorem at5_0 : sizes5.atKey (.string [100]) (.lit (.int .i64 0)) = .lit (.int .i64 86400000) := by kernel_rfl
theorem at5_1 : sizes5.atKey (.string [104]) (.lit (.int .i64 0)) = .lit (.int .i64 3600000) := by kernel_rfl
theorem at5_2 : sizes5.atKey (.string [109]) (.lit (.int .i64 0)) = .lit (.int .i64 60000) := by kernel_rfl
theorem at5_3 : sizes5.atKey (.string [115]) (.lit (.int .i64 0)) = .lit (.int .i64 1000) := by kernel_rfl
theorem at5_4 : sizes5.atKey (.string [109, 115]) (.lit (.int .i64 0)) = .lit (.int .i64 1) := by kernel_rfl
theorem at_lit {D : DataW Unit} {S c : Int} (h1 : D = .lit (.int .i64 S)) (h2 : D = .lit (.int .i64 c)) : S = c := by
  rw [h1] at h2; injection h2 with h2; injection h2
theorem key_ms : keyOf Tryd.prog 9 (.string ⟨#[109, 115]⟩) = some (.string [109, 115]) := Go.WideMaps.keyOf_string_mk Tryd.underlying9 (by decide)
theorem goP_noval {u tot v : Nat} {c : UInt8} {r : List UInt8} (hu : u < 5) (hd : PD.dig c = false) : PD.goP u tot v false (c :: r) = none := by
  rw [PD.goP_cons, if_neg (by omega), if_neg (by rw [hd]; decide)]
  split
  · rfl
  · exact if_pos rfl
theorem ext_one (s : ByteArray) (i : Nat) (h : i < s.size) {b : UInt8} (hb : s[i] = b) : s.extract i (i + 1) = ⟨#[b]⟩ := by
  have e : bs (s.extract i (i + 1)) = [b] := by rw [bs_extract2, bs_get s i h, hb, show i + 1 - i = 1 by omega]; rfl
  have e2 : ∀ y : ByteArray, bs y = [b] → y = ⟨#[b]⟩ := by
    intro y hy; cases y with | mk a => cases a with | mk l => simp only [bs] at hy; rw [hy]
  exact e2 _ e
theorem byteEq {b : UInt8} {c : UInt8} (h : b.toNat = c.toNat) : b = c := UInt8.toNat_inj.1 h

/-- the five places at which a unit may stand: which one it is (k), and how many letters it has (2: two) -/
theorem unitG_one {c : UInt8} {r : List UInt8} {k : Nat} (h : PD.unit1 c = some k) (hm : ¬ (c = 109 ∧ r.head? = some 115)) : PD.unitG c r = some (k, r) := by
  unfold PD.unitG; rw [if_neg hm, h]; rfl
theorem unitG_ms {c d : UInt8} {r : List UInt8} (h : c.toNat = 109) (h2 : d.toNat = 115) : PD.unitG c (d :: r) = some (4, r) := by
  unfold PD.unitG
  rw [if_pos ⟨byteEq (c := 109) h, by rw [byteEq (b := d) (c := 115) h2]; rfl⟩]; rfl


set_option maxRecDepth 100000 in
set_option maxHeartbeats 1000000 in
theorem parse11_short (s : ByteArray) (w : World) (T : TypeId) (x : Value) (hE : w.cell? ⟨0, 0, none⟩ = some (.iface T x)) (h0 : 0 < w.heap.size) (hs : s.size ≤ 1) (hd : durO (bs s) = none) :
    Calls Tryd.prog 11 #[.string s] w (PEnd w (.iface T x) (bs s)) := by
  have hle : (s.size : Int) ≤ 1 := by omega
  have hE1 : (w.alloc (.cells #[.int .i64 0] 36)).cell? ⟨0, 0, none⟩ = some (.iface T x) := (((Below.refl w.heap.size w).alloc (Nat.le_refl _) _).cell (p := ⟨0, 0, none⟩) h0).trans hE
  have HD := Lib.hid hd
  clear hd
  go_enter Tryd.func11, Tryd.ntmps11
  go_wp2
  go_region
  go_wp2_with fail
  refine bodyPost_ret (v := .tuple #[.agg #[.int .i64 0], .iface T x]) (by simp [results, Tryd.results11, go_sem]) rfl ?_
  exact pend_err HD.out (((Below.refl w.heap.size w).alloc (Nat.le_refl _) _).drew)

end Go.Proofs.YthbdcekcockhfaaDoor.Dur
