/-
  WALKS for FnUIDStepsList: the set's Remove (20); the four methods over the list that the set holds.
-/
import Derived.Test.YtmfolfjmajmamaaDoorSb
import Derived.Deep.RegionLaw
namespace Go.Proofs.YtmfolfjmajmamaaDoor.Ss
open Go.RowKit Go.Maps

set_option maxHeartbeats 1000000 in
theorem rem20_nil (x : K) (hx : small x) (b : Nat) (w : World) (hb : w.heap[b]? = some (.cells #[.map none] 41 (0, 0))) :
    Calls Tryd.prog 20 #[.pointer (some ⟨b, 0, none⟩), kv x] w fun e w' => e = .returned (.bool false) ∧ w.grownBy w' none := by
  have hk := key_of x hx
  have hlt : b < w.heap.size := by
    rcases Nat.lt_or_ge b w.heap.size with h' | h'
    · exact h'
    · simp [Array.getElem?_eq_none h'] at hb
  obtain ⟨s, i⟩ := x
  simp only [kv] at hk ⊢
  have c0 : (w.alloc (.cells #[.string s, .string i] 46)).cell? ⟨b, 0, none⟩ = some (.map none) := by
    simp only [World.cell?]; rw [heap_alloc_old w _ hlt, hb]; rfl
  have C3 : ((w.alloc (.cells #[.string s, .string i] 46)).alloc (.cells #[] 56)).cell? ⟨b, 0, none⟩ = some (.map none) := by
    simp only [World.cell?]; rw [(grown2 _ _ _).block b hlt (by simp), hb]; rfl
  have LK : ∀ w, (Instr.lookup 39 (.map none) (.agg #[.string s, .string i]) true).run Tryd.prog w = .ok (.tuple #[.agg #[], .bool false]) w := fun w => Maps.look_nil (w := w) true law46 Tryd.underlying39 (zero56 w) hk
  have DN := fun w ty => Maps.drop_nil (w := w) law46 Tryd.underlying39 hk ty
  clear hb
  go_enter Tryd.func20, Tryd.ntmps20
  go_wp2_with fail
  go_region
  all_goals
    go_wp2_with fail
    go_region
  all_goals
    go_wp2_with fail
    go_ret
    exact ⟨rfl, grown_drew (grown_alloc_drew _ _ _)⟩

set_option maxHeartbeats 1000000 in
theorem rem20 (x : K) (hx : small x) (b m n : Nat) (D : DataW Unit) (w : World) (hb : w.heap[b]? = some (.cells #[.map (some m)] 41 (0, 0))) (hown : w.ownsMap Tryd.prog 46 (unitElem (H := Unit)) m n D) :
    Calls Tryd.prog 20 #[.pointer (some ⟨b, 0, none⟩), kv x] w fun e w' => e = .returned (.bool (Maps.has D (kl x))) ∧ w'.ownsMap Tryd.prog 46 (unitElem (H := Unit)) m n (D.del (kl x)) ∧ w.grownBy w' (some m) := by
  have hk := key_of x hx
  have hlt : b < w.heap.size := by
    rcases Nat.lt_or_ge b w.heap.size with h' | h'
    · exact h'
    · simp [Array.getElem?_eq_none h'] at hb
  obtain ⟨hh, hhd⟩ : ∃ y, Maps.has D (kl x) = y := ⟨_, rfl⟩
  rw [hhd]
  obtain ⟨s, i⟩ := x
  simp only [kv] at hk ⊢
  have c0 : (w.alloc (.cells #[.string s, .string i] 46)).cell? ⟨b, 0, none⟩ = some (.map (some m)) := by
    simp only [World.cell?]; rw [heap_alloc_old w _ hlt, hb]; rfl
  have C3 : ((w.alloc (.cells #[.string s, .string i] 46)).alloc (.cells #[] 56)).cell? ⟨b, 0, none⟩ = some (.map (some m)) := by
    simp only [World.cell?]; rw [(grown2 _ _ _).block b hlt (by simp), hb]; rfl
  have L1 := look_at (hown.alloc (.cells #[.string s, .string i] 46)).drew hk
  have L2 := look_at ((hown.alloc (.cells #[.string s, .string i] 46)).alloc (.cells #[] 56)).drew hk
  rw [hhd] at L1 L2
  have OW : (((w.alloc (.cells #[.string s, .string i] 46)).alloc (.cells #[] 56)).drew.drew).ownsMap Tryd.prog 46 (unitElem (H := Unit)) m n D := ((hown.alloc (.cells #[.string s, .string i] 46)).alloc (.cells #[] 56)).drew.drew
  obtain ⟨w1, S1, O1, T1⟩ := OW.drop law46 Tryd.underlying39 hk 0
  have GO := Lib.hid (And.intro O1 (grown_trans (grown_weak (grown_drew (grown_alloc_drew w (.cells #[.string s, .string i] 46) (.cells #[] 56))) (some m)) T1.grown))
  clear hown hb OW O1 T1 hhd
  go_enter Tryd.func20, Tryd.ntmps20
  go_wp2_with fail
  go_region
  all_goals
    go_wp2_with fail
    go_region
  all_goals
    go_wp2_with fail
    go_ret
    exact ⟨rfl, GO.out.1, GO.out.2⟩

/-! ### the methods, over the list that the set holds -/

/-- w' is w but for one old block at most, at or above B, which is no row of numbers -/
def Grown (B : Nat) (w w' : World) : Prop := ∃ c, w.grownBy w' (some c) ∧ B ≤ c ∧ ∀ cs fz, w.heap[c]? ≠ some (.cells cs 3 fz)

theorem ownsMap_not {m n : Nat} {D : DataW Unit} {w : World} (h : w.ownsMap Tryd.prog 46 (unitElem (H := Unit)) m n D) {cs : Array Value} {t : TypeId} {fz : Nat × Nat} : w.heap[m]? ≠ some (.cells cs t fz) := by
  obtain ⟨es, clock, hb, _⟩ := h
  rw [hb]
  intro e
  cases e

theorem SetAt.kept {B b n : Nat} {h : List K} {w w' : World} {r : Option Nat} (S : SetAt B b h n w) (hg : w.grownBy w' r) (hr : ∀ c, r = some c → ∃ cs fz, w.heap[c]? = some (.cells cs 3 fz)) : SetAt B b h n w' := by
  obtain ⟨hB, hS⟩ := S
  have hlt : ∀ {o : Obj}, w.heap[b]? = some o → b < w.heap.size := fun e => by
    rcases Nat.lt_or_ge b w.heap.size with h' | h'
    · exact h'
    · simp [Array.getElem?_eq_none h'] at e
  refine ⟨hB, ?_⟩
  rcases hS with ⟨hb, rfl⟩ | ⟨m, D, hm, hb, hown, R⟩
  · refine .inl ⟨?_, rfl⟩
    rw [hg.block b (hlt hb) (fun e => ?_), hb]
    obtain ⟨cs, fz, h3⟩ := hr b e.symm
    rw [hb] at h3
    simp at h3
  · refine .inr ⟨m, D, hm, ?_, ?_, R⟩
    · rw [hg.block b (hlt hb) (fun e => ?_), hb]
      obtain ⟨cs, fz, h3⟩ := hr b e.symm
      rw [hb] at h3
      simp at h3
    · refine hown.kept hg (fun e => ?_)
      obtain ⟨cs, fz, h3⟩ := hr m e.symm
      exact ownsMap_not hown h3

theorem SetAt.kept0 {B b n : Nat} {h : List K} {w w' : World} (S : SetAt B b h n w) (hg : w.grownBy w' none) : SetAt B b h n w' := S.kept hg (fun c e => by cases e)

theorem SetAt.val {B b n : Nat} {h : List K} {w : World} (S : SetAt B b h n w) : ∃ mv, w.heap[b]? = some (.cells #[mv] 41 (0, 0)) ∧
    (∀ x, small x → ∀ w', w.grownBy w' none → Calls Tryd.prog 21 #[.agg #[mv], kv x] w' fun e w'' => e = .returned (.bool (decide (x ∈ h))) ∧ w'.grownBy w'' none) ∧
    (∀ w', w.grownBy w' none → Calls Tryd.prog 22 #[.agg #[mv]] w' fun e w'' => e = .returned (.int .i64 h.length) ∧ w'.grownBy w'' none) := by
  obtain ⟨hB, hS⟩ := S
  rcases hS with ⟨hb, rfl⟩ | ⟨m, D, hm, hb, hown, R⟩
  · refine ⟨_, hb, fun x hx w' _ => ?_, fun w' _ => len22_nil w'⟩
    simpa using has21_nil x hx w'
  · refine ⟨_, hb, fun x hx w' hg => ?_, fun w' hg => ?_⟩
    · rw [← R.has x hx]
      exact has21 x hx m n D w' (hown.kept hg (by simp))
    · rw [← R.size]
      exact len22 m n D w' (hown.kept hg (by simp))

theorem set_add (x : K) (hx : small x) {B b n : Nat} {h : List K} {w : World} (S : SetAt B b h n w) (hn : n < maxLen) (hBw : B ≤ w.heap.size) :
    Calls Tryd.prog 18 #[.pointer (some ⟨b, 0, none⟩), kv x] w fun e w' => e = .returned (.bool (decide (x ∉ h))) ∧ SetAt B b (if x ∈ h then h else h ++ [x]) (n + 1) w' ∧ Grown B w w' := by
  obtain ⟨hB, hS⟩ := S
  rcases hS with ⟨hb, rfl⟩ | ⟨m, D, hm, hb, hown, R⟩
  · refine (add18_nil x hx b w hb).mono ?_
    rintro e w' ⟨rfl, m, hm, hb', hown', hg⟩
    refine ⟨by simp, ⟨hB, .inr ⟨m, _, Nat.le_trans hBw hm, hb', hown'.mono (by omega), ?_⟩⟩, b, hg, hB, fun cs fz e => ?_⟩
    · simpa using Rep.nil.put Maps.tidy_empty hx (by simp) (.agg [])
    · rw [hb] at e; simp at e
  · have hlt : b < w.heap.size := by
      rcases Nat.lt_or_ge b w.heap.size with h' | h'
      · exact h'
      · simp [Array.getElem?_eq_none h'] at hb
    have hbm : some b ≠ some m := fun e => by
      injection e with e
      subst e
      exact ownsMap_not hown hb
    by_cases hx' : x ∈ h
    · refine (add18_in x hx b m n D w hb hown (by rw [R.has x hx]; simp [hx'])).mono ?_
      rintro e w' ⟨rfl, hg⟩
      refine ⟨by simp [hx'], ⟨hB, .inr ⟨m, D, hm, ?_, (hown.kept hg (by simp)).mono (by omega), by simpa [hx'] using R⟩⟩, b, grown_weak hg _, hB, fun cs fz e => ?_⟩
      · rw [hg.block b hlt (by simp), hb]
      · rw [hb] at e; simp at e
    · refine (add18_new x hx b m n D w hb hown (by rw [R.has x hx]; simp [hx']) hn).mono ?_
      rintro e w' ⟨rfl, hown', hg⟩
      refine ⟨by simp [hx'], ⟨hB, .inr ⟨m, _, hm, ?_, hown', by simpa [hx'] using R.put (hown.tidy law46) hx hx' (.agg [])⟩⟩, m, hg, hm, fun cs fz => ownsMap_not hown⟩
      rw [hg.block b hlt hbm, hb]

theorem set_rem (x : K) (hx : small x) {B b n : Nat} {h : List K} {w : World} (S : SetAt B b h n w) :
    Calls Tryd.prog 20 #[.pointer (some ⟨b, 0, none⟩), kv x] w fun e w' => e = .returned (.bool (decide (x ∈ h))) ∧ SetAt B b (h.erase x) n w' ∧ Grown B w w' := by
  obtain ⟨hB, hS⟩ := S
  rcases hS with ⟨hb, rfl⟩ | ⟨m, D, hm, hb, hown, R⟩
  · have hlt : b < w.heap.size := by
      rcases Nat.lt_or_ge b w.heap.size with h' | h'
      · exact h'
      · simp [Array.getElem?_eq_none h'] at hb
    refine (rem20_nil x hx b w hb).mono ?_
    rintro e w' ⟨rfl, hg⟩
    refine ⟨by simp, ⟨hB, .inl ⟨?_, by simp⟩⟩, b, grown_weak hg _, hB, fun cs fz e => ?_⟩
    · rw [hg.block b hlt (by simp), hb]
    · rw [hb] at e; simp at e
  · have hlt : b < w.heap.size := by
      rcases Nat.lt_or_ge b w.heap.size with h' | h'
      · exact h'
      · simp [Array.getElem?_eq_none h'] at hb
    have hbm : some b ≠ some m := fun e => by
      injection e with e
      subst e
      exact ownsMap_not hown hb
    refine (rem20 x hx b m n D w hb hown).mono ?_
    rintro e w' ⟨rfl, hown', hg⟩
    refine ⟨by rw [R.has x hx], ⟨hB, .inr ⟨m, _, hm, ?_, hown', R.del (hown.tidy law46) hx⟩⟩, m, hg, hm, fun cs fz => ownsMap_not hown⟩
    rw [hg.block b hlt hbm, hb]
end Go.Proofs.YtmfolfjmajmamaaDoor.Ss
