/-
  FnUIDStepsList: the steps that came in, as they lie in memory; the law at no steps.
-/
import Derived.Test.YtmfolfjmajmamaaDoorSi
import Derived.Deep.Slices
import Derived.ChangeSame
import Derived.DataReads
import Derived.ProofKit
namespace Go.Proofs.YtmfolfjmajmamaaDoor.Ss
open Go.RowKit Go.Maps Go.WideShapes Go.ChangeShapes Go.Deep

theorem steps7_none (a : Option Addr) (c : Nat) (w : World) :
    Calls Tryd.prog 7 #[.slice a 0 c] w fun e w' => e = .returned (.slice none 0 0) ∧ Below w.heap.size w w' := by
  go_enter Tryd.func7, Tryd.ntmps7
  go_wp2_with fail
  refine wp_loop_rounds 1 ?_
  rw [rounds_succ]
  go_wp2_with fail
  go_ret
  exact ⟨rfl, (Below.refl _ _).alloc (Nat.le_refl _) _⟩

theorem law3_none (a : Option Addr) (c : Nat) (w : World) : Calls Tryd.prog 3 #[.slice a 0 c] w (LEnd w) := by
  have F5 := fits5_none a c
  have F6 := few6_none a c
  have F7 := steps7_none a c
  go_enter Tryd.func3, Tryd.ntmps3
  go_wp2_with fail
  refine (F5 _).mono ?_
  rintro e w1 ⟨⟨b, rfl⟩, hb1⟩
  have HB1 := Lib.hid hb1
  clear hb1
  simp only []
  cases b
  · go_wp2_with fail
    go_ret
    exact ⟨rfl, HB1.out⟩
  go_wp2_with fail
  refine (F6 _).mono ?_
  rintro e w2 ⟨⟨b, rfl, _⟩, hb2⟩
  have HB2 := Lib.hid (HB1.out.trans (hb2.mono HB1.out.size))
  clear hb2
  simp only []
  cases b
  · go_wp2_with fail
    go_ret
    exact ⟨rfl, HB2.out⟩
  go_wp2_with fail
  refine (F7 _).mono ?_
  rintro e w3 ⟨rfl, hb3⟩
  have HB3 := Lib.hid (HB2.out.trans (hb3.mono HB2.out.size))
  clear hb3
  simp only []
  go_wp2_with fail
  refine wp_loop_rounds 1 ?_
  rw [rounds_succ]
  go_wp2_with fail
  go_ret
  exact ⟨rfl, HB3.out⟩

theorem cells3 : Tryd.prog.cellsOf 31 = 3 := by kernel_rfl
theorem cells2 : Tryd.prog.cellsOf 29 = 2 := by kernel_rfl
theorem cells1 : Tryd.prog.cellsOf 3 = 1 := by kernel_rfl
theorem cells9 : Tryd.prog.cellsOf 9 = 1 := by kernel_rfl

theorem three_cells {w : World} {B : Nat} {a : Addr} {x y z : Value} (h : w.cells? B a 3 = some [x, y, z]) : w.cell? a = some x ∧ w.cell? (a.add 1) = some y ∧ w.cell? (a.add 2) = some z := by
  unfold World.cells? at h
  split at h
  · have e : List.range 3 = [0, 1, 2] := rfl
    rw [e] at h
    simp only [List.mapM_cons, List.mapM_nil] at h
    have a0 : a.add 0 = a := by simp [Addr.add]
    rw [a0] at h
    cases h0 : w.cell? a <;> cases h1 : w.cell? (a.add 1) <;> cases h2 : w.cell? (a.add 2) <;> simp [h0, h1, h2] at h
    obtain ⟨rfl, rfl, rfl⟩ := h
    exact ⟨rfl, rfl, rfl⟩
  · cases h

theorem open_step {H : Type} {enc : TypeId × Value → H} {w : World} {B n : Nat} {sp : Nat → Bool} {held : Bool} {a : Addr} {cs : List Value} {D : DataW H × List MemPlace} (hc : w.cells? B a 3 = some cs) (h : DataW.trod enc Tryd.prog w B sp held n 31 cs = some D) :
    ∃ (q : Int × K), w.cell? a = some (.int .i64 q.1) ∧ w.cell? (a.add 1) = some (.string q.2.t) ∧ w.cell? (a.add 2) = some (.string q.2.i) ∧ small q.2 := by
  obtain ⟨y0, y1, m, _, hl, h0, h1⟩ := trod_struct2 Tryd.underlying31 h
  rw [cells3] at hl
  obtain ⟨x, y, z, rfl⟩ : ∃ x y z, cs = [x, y, z] := by
    match cs, hl with
    | [x, y, z], _ => exact ⟨x, y, z, rfl⟩
  simp only [cells1, cells2] at h0 h1
  obtain ⟨k, hk, _, _⟩ := DataW.trod_int Tryd.underlying3 h0
  obtain ⟨z0, z1, m', _, _, g0, g1⟩ := trod_struct2 Tryd.underlying29 h1
  simp only [cells9] at g0 g1
  obtain ⟨s, hs, _, ls⟩ := DataW.trod_string Tryd.underlying9 g0
  obtain ⟨i, hi, _, li⟩ := DataW.trod_string Tryd.underlying9 g1
  simp at hk hs hi
  subst hk
  subst hs
  subst hi
  obtain ⟨c0, c1, c2⟩ := three_cells hc
  exact ⟨(k, ⟨s, i⟩), c0, c1, c2, ls, li⟩

/-- one step, as it lies at an address -/
def w_step (w : World) (a : Addr) (q : Int × K) : Prop := w.cell? a = some (.int .i64 q.1) ∧ w.cell? (a.add 1) = some (.string q.2.t) ∧ w.cell? (a.add 2) = some (.string q.2.i) ∧ small q.2
instance : Inhabited (Int × K) := ⟨(0, ⟨ByteArray.empty, ByteArray.empty⟩)⟩

theorem open_steps {H : Type} {enc : TypeId × Value → H} {W : World} {v : Value} {d : DataW H} {p : List MemPlace} (hok : Value.okWide Tryd.prog W .any 0 22 v) (h : DataW.Trod enc Tryd.prog W 0 (fun _ => true) true 22 v d p) :
    ∃ a n c, v = .slice a n c ∧ (n = 0 ∨ ∃ g off kd id, a = some ⟨g, off, none⟩ ∧ g < W.heap.size ∧ StepsAt g off n kd id W ∧ ∀ k, k < n → small (id k)) := by
  obtain ⟨a0, len, cap, rfl⟩ := okWide_slice Tryd.underlying22 hok
  obtain ⟨fuel, hf⟩ := h
  rcases open_slice Tryd.underlying22 hf with ⟨hcs, _⟩ | ⟨a, len', cap', m, n, D, Pl, hcs, _, hl, hm, hmm, _, hx⟩
  · simp [Value.cells] at hcs
    obtain ⟨rfl, rfl, rfl⟩ := hcs
    exact ⟨none, 0, 0, rfl, .inl rfl⟩
  · simp [Value.cells] at hcs
    obtain ⟨rfl, rfl, rfl⟩ := hcs
    simp only [if_true] at hmm
    refine ⟨some a, len, cap, rfl, ?_⟩
    by_cases h0 : len = 0
    · exact .inl h0
    right
    rw [cells3] at hx
    obtain ⟨F, hF⟩ := choose_lt (α := Int × K) (p := fun i q => w_step W (a.add (i * 3)) q) (n := len) (fun i hi => by
      obtain ⟨cs, h1, h2⟩ := hx i (by omega)
      exact open_step h1 h2)
    obtain ⟨b, off, spot⟩ := a
    have hc := (hF 0 (by omega)).1
    have hspot : spot = none := by simpa [Addr.add] using World.cell?_spot hc
    subst hspot
    have hadd : ∀ i, (⟨b, off, none⟩ : Addr).add i = ⟨b, off + i, none⟩ := fun i => by unfold Addr.add; split <;> simp_all
    refine ⟨b, off, fun i => (F i).1, fun i => (F i).2, rfl, ?_, ?_, fun k hk => (hF k hk).2.2.2⟩
    · exact World.block_lt_of_cell? W _ hc
    · intro k hk
      obtain ⟨c0, c1, c2, _⟩ := hF k hk
      simp only [hadd] at c0 c1 c2
      exact ⟨c0, c1, c2⟩
end Go.Proofs.YtmfolfjmajmamaaDoor.Ss
