/-
  WALKS for FnUIDsAlike: making a set: Make (34), FromItems (33), Immutable (30), NewEntityUIDSet (24).
-/
import Derived.Test.YtmfolfjmajmamaaDoorTa
namespace Go.Proofs.YtmfolfjmajmamaaDoor.Al
open Go.RowKit Go.Maps Go.Proofs.YtmfolfjmajmamaaDoor.Ss

def addK (h : List K) (x : K) : List K := if x ∈ h then h else h ++ [x]
def setN (id : Nat → K) : Nat → List K
  | 0 => []
  | k + 1 => addK (setN id k) (id k)

/-- a set that has its map, in cell b -/
def SetM (B b : Nat) (h : List K) (n : Nat) (w : World) : Prop :=
  B ≤ b ∧ ∃ m D, B ≤ m ∧ w.heap[b]? = some (.cells #[.map (some m)] 41 (0, 0)) ∧ w.ownsMap Tryd.prog 46 (unitElem (H := Unit)) m n D ∧ Rep D h

theorem setM_add (x : K) (hx : small x) {B b n : Nat} {h : List K} {w : World} (S : SetM B b h n w) (hn : n < maxLen) :
    Calls Tryd.prog 18 #[.pointer (some ⟨b, 0, none⟩), kv x] w fun e w' => IsBool e ∧ SetM B b (addK h x) (n + 1) w' ∧ ∃ c, w.grownBy w' (some c) ∧ B ≤ c := by
  obtain ⟨hB, m, D, hm, hb, hown, R⟩ := S
  have hlt : b < w.heap.size := by
    rcases Nat.lt_or_ge b w.heap.size with h' | h'
    · exact h'
    · simp [Array.getElem?_eq_none h'] at hb
  have hbm : some b ≠ some m := fun e => by
    injection e with e
    subst e
    exact ownsMap_not hown hb
  by_cases hx' : x ∈ h
  · refine (add18_in x hx b m n D w hb hown (by rw [R.has x hx]; simp [hx'])).mono ?_
    rintro e w' ⟨rfl, hg⟩
    refine ⟨⟨_, rfl⟩, ⟨hB, m, D, hm, ?_, (hown.kept hg (by simp)).mono (by omega), by simpa [addK, hx'] using R⟩, b, grown_weak hg _, hB⟩
    rw [hg.block b hlt (by simp), hb]
  · refine (add18_new x hx b m n D w hb hown (by rw [R.has x hx]; simp [hx']) hn).mono ?_
    rintro e w' ⟨rfl, hown', hg⟩
    refine ⟨⟨_, rfl⟩, ⟨hB, m, _, hm, ?_, hown', by simpa [addK, hx'] using R.put (hown.tidy law46) hx hx' (.agg [])⟩, m, hg, hm⟩
    rw [hg.block b hlt hbm, hb]

theorem SetM.none {B b n : Nat} {h : List K} {w w' : World} (S : SetM B b h n w) (g : w.grownBy w' none) : SetM B b h n w' := by
  obtain ⟨hB, m, D, hm, hb, hown, R⟩ := S
  have hlt : b < w.heap.size := by
    rcases Nat.lt_or_ge b w.heap.size with h' | h'
    · exact h'
    · simp [Array.getElem?_eq_none h'] at hb
  exact ⟨hB, m, D, hm, by rw [g.block b hlt (by simp), hb], hown.kept g (by simp), R⟩

theorem run_makeMap_hint (n : Int) (w : World) : (Instr.makeMap 39 (some (.int .i64 n))).run Tryd.prog w = .ok (.map (some w.heap.size)) (w.alloc (.map #[] 0)) := by
  simp [Instr.makeMap, run_underlying Tryd.underlying39, asInt, asIntOf]

theorem make34 (g n : Nat) (w : World) (hc : w.cell? ⟨g, 0, none⟩ = some (.int .i64 n)) :
    Calls Tryd.prog 34 #[.slice (some ⟨g, 0, none⟩) 1 1] w fun e w' => e = .returned (.pointer (some ⟨w.heap.size + 1, 0, none⟩)) ∧ w' = (w.alloc (.map #[] 0)).alloc (.cells #[.map (some w.heap.size)] 41) := by
  have hmm := run_makeMap_hint
  go_enter Tryd.func34, Tryd.ntmps34
  go_wp2_with fail
  go_ret
  exact ⟨rfl, rfl⟩

theorem setM_made (w : World) : SetM w.heap.size (w.heap.size + 1) [] 0 ((w.alloc (.map #[] 0)).alloc (.cells #[.map (some w.heap.size)] 41)) := by
  refine ⟨by omega, w.heap.size, .map [], Nat.le_refl _, ?_, (World.ownsMap_made w Tryd.prog 46 unitElem).alloc _, Rep.nil⟩
  have := heap_alloc_new (w.alloc (.map #[] 0)) (.cells #[.map (some w.heap.size)] 41)
  simpa using this

/-- the identifiers of the package, as they lie in memory -/
theorem from33 (g n c : Nat) (id : Nat → K) (w : World) (hn : n ≤ 1000) (hg : g < w.heap.size) (hs : IdsAt g 0 n id w) (hsm : ∀ k, k < n → small (id k)) :
    Calls Tryd.prog 33 #[.slice (some ⟨g, 0, none⟩) n c] w fun e w' => ∃ b, e = .returned (.pointer (some ⟨b, 0, none⟩)) ∧ SetM w.heap.size b (setN id n) n w' ∧ Below w.heap.size w w' := by
  have MK : ∀ w : World, w.cell? ⟨w.heap.size - 1, 0, none⟩ = some (.int .i64 n) → Calls Tryd.prog 34 #[.slice (some ⟨w.heap.size - 1, 0, none⟩) 1 1] w fun e w' => e = .returned (.pointer (some ⟨w.heap.size + 1, 0, none⟩)) ∧ SetM w.heap.size (w.heap.size + 1) [] 0 w' ∧ Below w.heap.size w w' := fun w hc => by
    refine (make34 _ n w hc).mono ?_
    rintro e w' ⟨rfl, rfl⟩
    exact ⟨rfl, setM_made w, ((Below.refl _ _).alloc (Nat.le_refl _) _).alloc (by simp) _⟩
  have M0 := MK (w.alloc (.cells #[.int .i64 n] 3)) (by
    have e : (w.alloc (.cells #[.int .i64 (n : Int)] 3)).heap.size - 1 = w.heap.size := by simp
    rw [e]
    simp only [World.cell?]
    rw [heap_alloc_new w _]
    rfl)
  have e1 : (w.alloc (.cells #[.int .i64 (n : Int)] 3)).heap.size = w.heap.size + 1 := by simp
  rw [e1] at M0
  simp only [Nat.add_sub_cancel] at M0
  clear MK
  have A := fun (h : List K) (m : Nat) (s i : ByteArray) (wr : World) (hx : small ⟨s, i⟩) (S : SetM w.heap.size (w.heap.size + 1 + 1) h m wr) (hm : m < maxLen) => setM_add ⟨s, i⟩ hx S hm
  simp only [kv] at A
  have HA := Lib.hid A
  clear A
  go_enter Tryd.func33, Tryd.ntmps33
  go_wp2_with fail
  refine M0.mono ?_
  rintro e w1 ⟨rfl, hS, hb1⟩
  have HB1 := Lib.hid (((Below.refl w.heap.size w).alloc (Nat.le_refl _) (.cells #[.int .i64 (n : Int)] 3)).trans (hb1.mono (by omega)))
  have hS1 : SetM w.heap.size (w.heap.size + 1 + 1) [] 0 w1 := by
    obtain ⟨a, m, D, hm, r⟩ := hS
    exact ⟨by omega, m, D, by omega, r⟩
  have HS1 := Lib.hid hS1
  clear hS hS1 hb1
  simp only []
  go_wp2_with fail
  go_loopw [12] (fun i wr => ∃ k : Nat, k ≤ n ∧ i = .int .i64 k ∧ SetM w.heap.size (w.heap.size + 1 + 1) (setN id k) k wr ∧ Below w.heap.size w wr) (fun i _ => n - (intOf i).toNat)
  case atStart => exact ⟨0, Nat.zero_le _, rfl, HS1.out, HB1.out⟩
  case round =>
    obtain ⟨k, hk, rfl, hS, hB⟩ := hrel
    rcases Nat.lt_or_ge k n with hlt | hge
    · obtain ⟨c0, c1⟩ := hs k hlt
      have d0 := (hB.cell (p := ⟨g, 0 + k * 2, none⟩) hg).trans c0
      have d1 := (hB.cell (p := ⟨g, 0 + k * 2 + 1, none⟩) hg).trans c1
      have hlt' : (k : Int) < (n : Int) := by omega
      have hsx := hsm k hlt
      have HST := Lib.hid (show setN id (k + 1) = addK (setN id k) (id k) from rfl)
      obtain ⟨⟨s, i⟩, hid⟩ : ∃ y, id k = y := ⟨_, rfl⟩
      rw [hid] at d0 d1 hsx HST
      simp only [] at d0 d1
      simp only [Nat.zero_add] at d0 d1
      have HB := Lib.hid hB
      have HS := Lib.hid hS
      clear hB hS c0 c1 hid
      go_wp2_with fail
      refine (HA.out (setN id k) k s i _ hsx (HS.out.none (World.grownBy_alloc _ _ _)) (by unfold maxLen; omega)).mono ?_
      rintro e w2 ⟨⟨b, rfl⟩, hS2, c2, hg2, hc2⟩
      have HZ := Lib.hid (And.intro hS2 ((HB.out.alloc HB.out.size (.cells #[.string s, .string i] 46)).grown hg2 (by have := HB.out.size; simp; omega) (fun k e => by cases e; exact hc2)))
      clear hS2 hg2 hc2
      simp only []
      go_wp2_with fail
      go_roundw
      case rel => exact ⟨k + 1, by omega, by go_num, by rw [HST.out]; exact HZ.out.1, HZ.out.2⟩
      case measure => simp [intOf]; omega
    · have : k = n := by omega
      subst this
      have HB := Lib.hid hB
      have HS := Lib.hid hS
      clear hB hS
      go_wp2_with fail
      go_ret
      exact ⟨_, rfl, HS.out, HB.out⟩
end Go.Proofs.YtmfolfjmajmamaaDoor.Al
