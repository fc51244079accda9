/-
  FnDurationOrder: the walk of the law (3).
-/
import Derived.Test.YthbdcekcockhfaaDoorG
import Derived.Test.YthbdcekcockhfaaDoorH
import Derived.Deep.RegionHeld3
import Derived.IntWalk
import Derived.Laws.Concat
namespace Go.Proofs.YthbdcekcockhfaaDoor.Dur
open Go.RowKit Go.ChangeMaps

theorem law3_less (a b : Int) (f g : Nat) (w : World) (h : f % 5 < g % 5) (hf : f < 256) (hg : g < 256) :
    Calls Tryd.prog 3 #[.int .u32 a, .int .u32 b, .int .u8 f, .int .u8 g] w fun e w' => e = .returned (.bool true) ∧ Below w.heap.size w w' := by
  have h1 : ((f : Int) % 5) < ((g : Int) % 5) := by omega
  go_enter Tryd.func3, Tryd.ntmps3
  go_wp2_with fail
  refine (units6 _).mono ?_
  rintro e w1 ⟨rfl, hb1⟩
  have HB := Lib.hid hb1
  clear hb1
  simp only []
  go_wp2_with fail
  go_ret
  have b2 := (HB.out.alloc HB.out.size (.cells #[.string (uname 0), .string (uname 1), .string (uname 2), .string (uname 3), .string (uname 4)] 23))
  exact ⟨rfl, b2.alloc b2.size _⟩

/-- the world of the law: its table of names, the package's error -/
structure LW (w : World) (er : Value) (bn : Nat) (W : World) : Prop where
  bel : Below w.heap.size w W
  lt : bn < W.heap.size
  names : ∀ q, q < 5 → W.cell? ⟨bn, q, none⟩ = some (.string (uname q))
  pos : 0 < W.heap.size
  glob : W.cell? ⟨0, 0, none⟩ = some er
theorem LW.next {w W W1 : World} {er : Value} {bn : Nat} (h : LW w er bn W) (hb : Below W.heap.size W W1) : LW w er bn W1 :=
  ⟨h.bel.trans (hb.mono h.bel.size), Nat.lt_of_lt_of_le h.lt hb.size, fun q hq => (hb.cell (p := ⟨bn, q, none⟩) h.lt).trans (h.names q hq), Nat.lt_of_lt_of_le h.pos hb.size, (hb.cell (p := ⟨0, 0, none⟩) h.pos).trans h.glob⟩
theorem LW.drew {w W : World} {er : Value} {bn : Nat} (h : LW w er bn W) : LW w er bn W.drew := ⟨h.bel.drew, h.lt, h.names, h.pos, h.glob⟩

theorem bs_app (x y : ByteArray) : bs (x ++ y) = bs x ++ bs y := by
  unfold bs; simp
theorem size_app (x y : ByteArray) : (x ++ y).size = x.size + y.size := by
  rw [← bs_len, bs_app, List.length_append, bs_len, bs_len]
theorem uname_size (q : Nat) : (uname q).size ≤ 2 := by
  unfold uname; split <;> decide

theorem impl_wrong (ta tb : List UInt8) (i k : Nat) (hi : i < 5) (hk : k < 5) (hki : k ≤ i) (ha : ta ≠ []) (hb : tb ≠ []) (da : ∀ c ∈ ta, PD.dig c = true) (db : ∀ c ∈ tb, PD.dig c = true) (la : ta.length ≤ 20) (lb : tb.length ≤ 20)
    {w W : World} {T : TypeId} {x : Value} {bn : Nat} (h : LW w (.iface T x) bn W) :
    Calls Tryd.prog 7 #[.string (ByteArray.mk ta.toArray ++ uname i ++ ByteArray.mk tb.toArray ++ uname k)] W fun e w' => e = .returned (.tuple #[.int .i64 0, .bool false]) ∧ Below W.heap.size W w' := by
  have hs : (ByteArray.mk ta.toArray ++ uname i ++ ByteArray.mk tb.toArray ++ uname k).size ≤ 1000000 := by
    have := uname_size i
    have := uname_size k
    rw [size_app, size_app, size_app, sz_mk ta, sz_mk tb]; omega
  have C := impl7 (ByteArray.mk ta.toArray ++ uname i ++ ByteArray.mk tb.toArray ++ uname k) W T x h.glob h.pos hs
  unfold IEnd at C
  rw [bs_app, bs_app, bs_app, bs_mk ta, bs_mk tb, durV_none (order_none ta tb i k hi hk hki ha hb da db)] at C
  exact C

theorem impl_1h1m {w W : World} {T : TypeId} {x : Value} {bn : Nat} (h : LW w (.iface T x) bn W) :
    Calls Tryd.prog 7 #[.string ⟨#[49, 104, 49, 109]⟩] W fun e w' => e = .returned (.tuple #[.int .i64 3660000, .bool true]) ∧ Below W.heap.size W w' := by
  have C := impl7 ⟨#[49, 104, 49, 109]⟩ W T x h.glob h.pos (by decide)
  unfold IEnd at C
  rw [show bs ⟨#[49, 104, 49, 109]⟩ = [49, 104, 49, 109] from rfl, durV_some one_h_m] at C
  exact C

theorem cat_run (x y : ByteArray) (h : x.size + y.size ≤ 1000) (w : World) : (Op.stringOp .add x y).run Tryd.prog w = .ok (.string (x ++ y)) w := run_string_add_sum w x y (by omega)
theorem cat_a (ta : List UInt8) (i : Nat) (la : ta.length ≤ 20) : (ByteArray.mk ta.toArray).size + (uname i).size ≤ 1000 := by
  have := uname_size i; rw [sz_mk ta]; omega
theorem cat_b (ta tb : List UInt8) (i : Nat) (la : ta.length ≤ 20) (lb : tb.length ≤ 20) : (ByteArray.mk ta.toArray ++ uname i).size + (ByteArray.mk tb.toArray).size ≤ 1000 := by
  have := uname_size i; rw [size_app, sz_mk ta, sz_mk tb]; omega
theorem cat_c (ta tb : List UInt8) (i k : Nat) (la : ta.length ≤ 20) (lb : tb.length ≤ 20) : (ByteArray.mk ta.toArray ++ uname i ++ ByteArray.mk tb.toArray).size + (uname k).size ≤ 1000 := by
  have := uname_size i; have := uname_size k; rw [size_app, size_app, sz_mk ta, sz_mk tb]; omega

set_option maxHeartbeats 2000000 in
theorem law3_geq (a b : Nat) (f g : Nat) (w : World) (T : TypeId) (x : Value) (hE : w.cell? ⟨0, 0, none⟩ = some (.iface T x)) (h0 : 0 < w.heap.size) (h : ¬ f % 5 < g % 5) (hf : f < 256) (hg : g < 256) (ha : a < 4294967296) (hb : b < 4294967296) :
    Calls Tryd.prog 3 #[.int .u32 a, .int .u32 b, .int .u8 f, .int .u8 g] w fun e w' => e = .returned (.bool true) ∧ Below w.heap.size w w' := by
  have h1 : ¬ ((f : Int) % 5) < ((g : Int) % 5) := by omega
  have HE := Lib.hid hE
  clear hE
  go_enter Tryd.func3, Tryd.ntmps3
  go_wp2_with fail
  refine (units6 _).mono ?_
  rintro e w1 ⟨rfl, hb1⟩
  have HB := Lib.hid hb1
  clear hb1
  simp only []
  go_wp2_with fail
  have b2 := (HB.out.alloc HB.out.size (.cells #[.string (uname 0), .string (uname 1), .string (uname 2), .string (uname 3), .string (uname 4)] 23))
  have b3 := b2.alloc b2.size (.cells #[.int .i64 86400000, .int .i64 3600000, .int .i64 60000, .int .i64 1000, .int .i64 1] 24)
  have hl0 : LW w (.iface T x) w1.heap.size ((w1.alloc (.cells #[.string (uname 0), .string (uname 1), .string (uname 2), .string (uname 3), .string (uname 4)] 23)).alloc (.cells #[.int .i64 86400000, .int .i64 3600000, .int .i64 60000, .int .i64 1000, .int .i64 1] 24)) := by
    refine ⟨b3, ?_, ?_, Nat.lt_of_lt_of_le h0 b3.size, (b3.cell (p := ⟨0, 0, none⟩) h0).trans HE.out⟩
    · have := lt_of_block (heap_alloc_new w1 (.cells #[.string (uname 0), .string (uname 1), .string (uname 2), .string (uname 3), .string (uname 4)] 23))
      exact Nat.lt_of_lt_of_le this ((Below.refl _ _).alloc (Nat.le_refl _) _).size
    · intro q hq
      have e1 := heap_alloc_new w1 (.cells #[.string (uname 0), .string (uname 1), .string (uname 2), .string (uname 3), .string (uname 4)] 23)
      have e2 := (Below.heap_alloc (w1.alloc (.cells #[.string (uname 0), .string (uname 1), .string (uname 2), .string (uname 3), .string (uname 4)] 23)) (.cells #[.int .i64 86400000, .int .i64 3600000, .int .i64 60000, .int .i64 1000, .int .i64 1] 24) _ (lt_of_block e1)).trans e1
      rw [cell_of_row _ _ _ _ _ _ e2]
      match q, hq with
      | 0, _ => rfl
      | 1, _ => rfl
      | 2, _ => rfl
      | 3, _ => rfl
      | 4, _ => rfl
  obtain ⟨i, hi⟩ : ∃ i, f % 5 = i := ⟨_, rfl⟩
  obtain ⟨k, hk⟩ : ∃ k, g % 5 = k := ⟨_, rfl⟩
  have ei : (f : Int) % 5 = (i : Int) := by omega
  have ek : (g : Int) % 5 = (k : Int) := by omega
  have hi5 : i < 5 := by omega
  have hk5 : k < 5 := by omega
  have hki : k ≤ i := by omega
  rw [ei, ek]
  generalize hW : ((w1.alloc (.cells #[.string (uname 0), .string (uname 1), .string (uname 2), .string (uname 3), .string (uname 4)] 23)).alloc (.cells #[.int .i64 86400000, .int .i64 3600000, .int .i64 60000, .int .i64 1000, .int .i64 1] 24)) = W0 at hl0 ⊢
  generalize w1.heap.size = bn at hl0 ⊢
  have HL0 := Lib.hid hl0
  have n0i := hl0.names i hi5
  have n0k := hl0.names k hk5
  have i0 : (0 : Int) ≤ (i : Int) := by omega
  have i1 : (i : Int) < 5 := by omega
  have k0 : (0 : Int) ≤ (k : Int) := by omega
  have k1 : (k : Int) < 5 := by omega
  have wa : IntKind.u64.wrap (a : Int) = a := IntWalk.u64_in _ (by omega)
  have wb : IntKind.u64.wrap (b : Int) = b := IntWalk.u64_in _ (by omega)
  clear hl0 hW b2 b3 ei ek hi hk h1 h
  go_region_held3 (fun w' => w'.cell? ⟨bn, i, none⟩ = some (.string (uname i)) ∧ w'.cell? ⟨bn, k, none⟩ = some (.string (uname k)))
    (first | go_keep | exact ⟨nai, nak⟩ | exact ⟨nbi, nbk⟩ | exact ⟨nci, nck⟩)
    (first
      | (go_at_call 8; refine (digits8 _ _ (by omega)).mono ?_; first
          | (have _hh := HLA.out; clear _hh; rintro e wb ⟨tb, rfl, nb, db, lb, bb⟩; have HLB := Lib.hid (HLA.out.next bb); have nbi := HLB.out.names i hi5; have nbk := HLB.out.names k hk5; have HDB := Lib.hid (And.intro nb db); have ctb := cat_run _ _ (cat_b ta tb i la lb); have ctc := cat_run _ _ (cat_c ta tb i k la lb); clear nb db bb)
          | (rintro e wa ⟨ta, rfl, na, da, la, ba⟩; have HLA := Lib.hid (HL0.out.drew.next ba); have nai := HLA.out.names i hi5; have nak := HLA.out.names k hk5; have HDA := Lib.hid (And.intro na da); have cta := cat_run _ _ (cat_a ta i la); clear na da ba))
      | (go_at_call 7; refine (impl_wrong ta tb i k hi5 hk5 hki HDA.out.1 HDB.out.1 HDA.out.2 HDB.out.2 la lb HLB.out).mono ?_; rintro e wc ⟨rfl, bc⟩; have HLC := Lib.hid (HLB.out.next bc); have nci := HLC.out.names i hi5; have nck := HLC.out.names k hk5; clear bc))
  go_wp2_with fail
  refine (impl_1h1m HLC.out).mono ?_
  rintro e wd ⟨rfl, bd⟩
  have HLD := Lib.hid (HLC.out.next bd)
  clear bd
  simp only []
  go_wp2_with fail
  go_ret
  exact ⟨rfl, HLD.out.bel⟩

theorem law3 (a b f g : Nat) (w : World) (T : TypeId) (x : Value) (hE : w.cell? ⟨0, 0, none⟩ = some (.iface T x)) (h0 : 0 < w.heap.size) (hf : f < 256) (hg : g < 256) (ha : a < 4294967296) (hb : b < 4294967296) :
    Calls Tryd.prog 3 #[.int .u32 a, .int .u32 b, .int .u8 f, .int .u8 g] w fun e w' => e = .returned (.bool true) ∧ Below w.heap.size w w' := by
  by_cases h : f % 5 < g % 5
  · exact law3_less a b f g w h hf hg
  · exact law3_geq a b f g w T x hE h0 h hf hg ha hb
end Go.Proofs.YthbdcekcockhfaaDoor.Dur
