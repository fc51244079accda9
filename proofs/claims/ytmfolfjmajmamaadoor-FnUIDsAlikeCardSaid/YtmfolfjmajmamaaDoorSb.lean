/-
  WALKS for FnUIDStepsList: the set's Contains (21), Len (22), Add (18), Remove (20); impl.uid (19).
-/
import Derived.Test.YtmfolfjmajmamaaDoorSa
import Derived.Carry
import Derived.OwnWalk
import Derived.Below
import Derived.Maps.OwnOps
import Derived.WalkKit
import Derived.WalkSpells
import Derived.Lib.Hide
namespace Go.Proofs.YtmfolfjmajmamaaDoor.Ss
open Go.RowKit Go.Maps

theorem newUID29 (x : K) (w : World) : Calls Tryd.prog 29 #[.string x.t, .string x.i] w fun e w' => e = .returned (kv x) ∧ w' = w.alloc (.cells #[.string x.t, .string x.i] 46) := by
  obtain ⟨a, b⟩ := x
  go_enter Tryd.func29, Tryd.ntmps29
  go_wp2
  refine bodyPost_ret (v := kv ⟨a, b⟩) (by simp [results, Tryd.results29, go_sem, kv]) rfl ?_
  exact ⟨rfl, rfl⟩

theorem grown2 (w : World) (o1 o2 : Obj) : w.grownBy ((w.alloc o1).alloc o2) none := ⟨rfl, rfl, rfl, by simp; omega, fun k hk _ => (heap_alloc_old _ _ (by simp; omega)).trans (heap_alloc_old _ _ hk)⟩
theorem grown3 (w : World) (o1 o2 o3 : Obj) : w.grownBy (((w.alloc o1).alloc o2).alloc o3) none := ⟨rfl, rfl, rfl, by simp; omega, fun k hk _ => (heap_alloc_old _ _ (by simp; omega)).trans ((heap_alloc_old _ _ (by simp; omega)).trans (heap_alloc_old _ _ hk))⟩

theorem uid19 (x : K) (w : World) : Calls Tryd.prog 19 #[kv x] w fun e w' => e = .returned (kv x) ∧ w.grownBy w' none := by
  obtain ⟨a, b⟩ := x
  have N := newUID29 ⟨a, b⟩
  simp only [kv] at N ⊢
  go_enter Tryd.func19, Tryd.ntmps19
  go_wp2_with fail
  refine (N _).mono ?_
  rintro e w' ⟨rfl, rfl⟩
  simp only []
  go_wp2_with fail
  refine bodyPost_ret (v := .agg #[.string a, .string b]) (by simp [results, Tryd.results19, go_sem]) rfl ?_
  exact ⟨rfl, grown3 _ _ _ _⟩

/-- the set that lies in cell b: no map yet, or a map that holds what the list holds -/
def SetAt (B b : Nat) (h : List K) (n : Nat) (w : World) : Prop :=
  B ≤ b ∧ ((w.heap[b]? = some (.cells #[.map none] 41 (0, 0)) ∧ h = []) ∨
    ∃ m D, B ≤ m ∧ w.heap[b]? = some (.cells #[.map (some m)] 41 (0, 0)) ∧ w.ownsMap Tryd.prog 46 (unitElem (H := Unit)) m n D ∧ Rep D h)

theorem has21_nil (x : K) (hx : small x) (w : World) : Calls Tryd.prog 21 #[.agg #[.map none], kv x] w fun e w' => e = .returned (.bool false) ∧ w.grownBy w' none := by
  have LK := fun w => Maps.look_nil (w := w) true law46 Tryd.underlying39 (zero56 w) (key_of x hx)
  obtain ⟨a, b⟩ := x
  simp only [kv] at LK ⊢
  go_enter Tryd.func21, Tryd.ntmps21
  go_wp2_with fail
  go_ret
  exact ⟨rfl, grown3 _ _ _ _⟩

theorem has21 (x : K) (hx : small x) (m n : Nat) (D : DataW Unit) (w : World) (hown : w.ownsMap Tryd.prog 46 (unitElem (H := Unit)) m n D) :
    Calls Tryd.prog 21 #[.agg #[.map (some m)], kv x] w fun e w' => e = .returned (.bool (Maps.has D (kl x))) ∧ w.grownBy w' none := by
  have hk := key_of x hx
  obtain ⟨a, b⟩ := x
  simp only [kv] at hk ⊢
  have HO := Lib.hid hown
  clear hown
  go_enter Tryd.func21, Tryd.ntmps21
  go_wp2_with (at_lookup; refine wpList_lookup_own_unit _ rfl _ _ 39 rfl 46 56 law46 Tryd.underlying39 (zero56 _) m n D rfl ((HO.out.alloc _).alloc _) _ _ rfl hk ?_)
  go_ret
  exact ⟨rfl, grown3 _ _ _ _⟩

theorem len22_nil (w : World) : Calls Tryd.prog 22 #[.agg #[.map none]] w fun e w' => e = .returned (.int .i64 0) ∧ w.grownBy w' none := by
  have LN := fun w ty => Maps.len_nil (w := w) Tryd.underlying39 ty
  go_enter Tryd.func22, Tryd.ntmps22
  go_wp2_with fail
  go_ret
  exact ⟨rfl, World.grownBy_alloc _ _ _⟩

theorem len22 (m n : Nat) (D : DataW Unit) (w : World) (hown : w.ownsMap Tryd.prog 46 (unitElem (H := Unit)) m n D) :
    Calls Tryd.prog 22 #[.agg #[.map (some m)]] w fun e w' => e = .returned (.int .i64 (Maps.size D)) ∧ w.grownBy w' none := by
  have HO := Lib.hid hown
  clear hown
  go_enter Tryd.func22, Tryd.ntmps22
  go_wp2_with (at_len; refine wpList_len_own _ rfl _ 39 rfl 46 56 Tryd.underlying39 _ m n D rfl (HO.out.alloc _) ?_)
  go_ret
  exact ⟨rfl, World.grownBy_alloc _ _ _⟩

theorem look_at {m n : Nat} {D : DataW Unit} {w : World} (hown : w.ownsMap Tryd.prog 46 (unitElem (H := Unit)) m n D) {key : Value} {l : Lit} (hk : keyOf Tryd.prog 46 key = some l) :
    (Instr.lookup 39 (.map (some m)) key true).run Tryd.prog w = .ok (.tuple #[.agg #[], .bool (Maps.has D l)]) w := by
  obtain ⟨v1, p1, L1, hv1⟩ := hown.look_ok law46 Tryd.underlying39 (zero56 _) unitElem_mk hk
  obtain ⟨rfl, _⟩ := unitElem_inv hv1
  exact L1

theorem grown_alloc_drew (w : World) (o1 o2 : Obj) : w.grownBy ((w.alloc o1).alloc o2).drew none := ⟨rfl, rfl, rfl, (grown2 w o1 o2).size, (grown2 w o1 o2).block⟩

set_option maxHeartbeats 1000000 in
/-- Add at a map that holds it already -/
theorem add18_in (x : K) (hx : small x) (b m n : Nat) (D : DataW Unit) (w : World) (hb : w.heap[b]? = some (.cells #[.map (some m)] 41 (0, 0))) (hown : w.ownsMap Tryd.prog 46 (unitElem (H := Unit)) m n D) (hh : Maps.has D (kl x) = true) :
    Calls Tryd.prog 18 #[.pointer (some ⟨b, 0, none⟩), kv x] w fun e w' => e = .returned (.bool false) ∧ w.grownBy w' none := by
  have hk := key_of x hx
  have hlt : b < w.heap.size := by
    rcases Nat.lt_or_ge b w.heap.size with h' | h'
    · exact h'
    · simp [Array.getElem?_eq_none h'] at hb
  obtain ⟨s, i⟩ := x
  simp only [kv] at hk ⊢
  have c0 : (w.alloc (.cells #[.string s, .string i] 46)).cell? ⟨b, 0, none⟩ = some (.map (some m)) := by
    simp only [World.cell?]; rw [heap_alloc_old w _ hlt, hb]; rfl
  have L1 := look_at (hown.alloc (.cells #[.string s, .string i] 46)).drew hk
  have L2 := look_at ((hown.alloc (.cells #[.string s, .string i] 46)).alloc (.cells #[] 56)).drew hk
  rw [hh] at L1 L2
  clear hown hb hh
  have EM := fun w => run_eql_map_nil (P := Tryd.prog) w 39 46 56 (some m) Tryd.underlying39
  go_enter Tryd.func18, Tryd.ntmps18
  go_wp2_with fail
  go_region
  all_goals
    go_wp2_with fail
    go_ret
    first
      | exact ⟨rfl, grown_alloc_drew _ _ _⟩
      | (trace_state; fail)

theorem grown_trans {w w1 w2 : World} {r : Option Nat} (h : w.grownBy w1 r) (k : w1.grownBy w2 r) : w.grownBy w2 r :=
  ⟨k.os.trans h.os, k.tape.trans h.tape, k.output.trans h.output, Nat.le_trans h.size k.size, fun i hi hr => (k.block i (Nat.lt_of_lt_of_le hi h.size) hr).trans (h.block i hi hr)⟩
theorem grown_weak {w w1 : World} (h : w.grownBy w1 none) (r : Option Nat) : w.grownBy w1 r := ⟨h.os, h.tape, h.output, h.size, fun i hi _ => h.block i hi (by simp)⟩
theorem grown_drew {w w1 : World} {r : Option Nat} (h : w.grownBy w1 r) : w.grownBy w1.drew r := ⟨h.os, h.tape, h.output, h.size, h.block⟩

set_option maxHeartbeats 1000000 in
/-- Add at a map that does not hold it -/
theorem add18_new (x : K) (hx : small x) (b m n : Nat) (D : DataW Unit) (w : World) (hb : w.heap[b]? = some (.cells #[.map (some m)] 41 (0, 0))) (hown : w.ownsMap Tryd.prog 46 (unitElem (H := Unit)) m n D) (hh : Maps.has D (kl x) = false) (hn : n < maxLen) :
    Calls Tryd.prog 18 #[.pointer (some ⟨b, 0, none⟩), kv x] w fun e w' => e = .returned (.bool true) ∧ w'.ownsMap Tryd.prog 46 (unitElem (H := Unit)) m (n + 1) (D.put (kl x) (.agg [])) ∧ w.grownBy w' (some m) := by
  have hk := key_of x hx
  have hlt : b < w.heap.size := by
    rcases Nat.lt_or_ge b w.heap.size with h' | h'
    · exact h'
    · simp [Array.getElem?_eq_none h'] at hb
  obtain ⟨s, i⟩ := x
  simp only [kv] at hk ⊢
  have c0 : (w.alloc (.cells #[.string s, .string i] 46)).cell? ⟨b, 0, none⟩ = some (.map (some m)) := by
    simp only [World.cell?]; rw [heap_alloc_old w _ hlt, hb]; rfl
  have L1 := look_at (hown.alloc (.cells #[.string s, .string i] 46)).drew hk
  have L2 := look_at ((hown.alloc (.cells #[.string s, .string i] 46)).alloc (.cells #[] 56)).drew hk
  rw [hh] at L1 L2
  have OW : (((w.alloc (.cells #[.string s, .string i] 46)).alloc (.cells #[] 56)).drew.drew).ownsMap Tryd.prog 46 (unitElem (H := Unit)) m n D := ((hown.alloc (.cells #[.string s, .string i] 46)).alloc (.cells #[] 56)).drew.drew
  obtain ⟨w1, S1, O1, T1⟩ := OW.store law46 Tryd.underlying39 hn hk unitElem_mk
  have GO := Lib.hid (And.intro O1 (grown_trans (grown_weak (grown_drew (grown_alloc_drew w (.cells #[.string s, .string i] 46) (.cells #[] 56))) (some m)) T1.grown))
  clear hown hb hh OW O1 T1
  have EM := fun w => run_eql_map_nil (P := Tryd.prog) w 39 46 56 (some m) Tryd.underlying39
  go_enter Tryd.func18, Tryd.ntmps18
  go_wp2_with fail
  go_region
  all_goals
    go_wp2_with fail
    go_region
  all_goals
    go_wp2_with fail
    go_ret
    exact ⟨rfl, GO.out.1, GO.out.2⟩

set_option maxHeartbeats 1000000 in
/-- Add at the set that has no map yet -/
theorem add18_nil (x : K) (hx : small x) (b : Nat) (w : World) (hb : w.heap[b]? = some (.cells #[.map none] 41 (0, 0))) :
    Calls Tryd.prog 18 #[.pointer (some ⟨b, 0, none⟩), kv x] w fun e w' => e = .returned (.bool true) ∧ ∃ m, w.heap.size ≤ m ∧ w'.heap[b]? = some (.cells #[.map (some m)] 41 (0, 0)) ∧ w'.ownsMap Tryd.prog 46 (unitElem (H := Unit)) m 1 ((DataW.map []).put (kl x) (.agg [])) ∧ w.grownBy w' (some b) := by
  have hk := key_of x hx
  have hlt : b < w.heap.size := by
    rcases Nat.lt_or_ge b w.heap.size with h' | h'
    · exact h'
    · simp [Array.getElem?_eq_none h'] at hb
  obtain ⟨s, i⟩ := x
  simp only [kv] at hk ⊢
  have c0 : (w.alloc (.cells #[.string s, .string i] 46)).cell? ⟨b, 0, none⟩ = some (.map none) := by
    simp only [World.cell?]; rw [heap_alloc_old w _ hlt, hb]; rfl
  have f0 : (w.alloc (.cells #[.string s, .string i] 46)).frozen? ⟨b, 0, none⟩ = false := by
    simp only [World.frozen?]; rw [heap_alloc_old w _ hlt, hb]; rfl
  have hs : (w.setCell ⟨b, 0, none⟩ (.map (some (w.heap.size + 1)))).heap[b]? = some (.cells #[.map (some (w.heap.size + 1))] 41 (0, 0)) := by
    simp [World.setCell, Array.getElem?_modify, hb]
  have hss : (w.setCell ⟨b, 0, none⟩ (.map (some (w.heap.size + 1)))).heap.size = w.heap.size := by simp [World.setCell]
  have cS : (w.setCell ⟨b, 0, none⟩ (.map (some (w.heap.size + 1)))).cell? ⟨b, 0, none⟩ = some (.map (some (w.heap.size + 1))) := by
    simp only [World.cell?]; rw [hs]; rfl
  have C2 : (((w.setCell ⟨b, 0, none⟩ (.map (some (w.heap.size + 1)))).alloc (.cells #[.string s, .string i] 46)).alloc (.map #[] 0)).cell? ⟨b, 0, none⟩ = some (.map (some (w.heap.size + 1))) := by
    simp only [World.cell?]; rw [(grown2 _ _ _).block b (by rw [hss]; exact hlt) (by simp), hs]; rfl
  have C3 : ((((w.setCell ⟨b, 0, none⟩ (.map (some (w.heap.size + 1)))).alloc (.cells #[.string s, .string i] 46)).alloc (.map #[] 0)).alloc (.cells #[] 56)).cell? ⟨b, 0, none⟩ = some (.map (some (w.heap.size + 1))) := by
    simp only [World.cell?]; rw [(grown3 _ _ _ _).block b (by rw [hss]; exact hlt) (by simp), hs]; rfl
  have GS : w.grownBy (w.setCell ⟨b, 0, none⟩ (.map (some (w.heap.size + 1)))) (some b) := ⟨rfl, rfl, rfl, by rw [hss]; exact Nat.le_refl _, fun k _ hk => Below.heap_setCell _ _ _ _ (fun e => hk (by rw [e]))⟩
  have OM := World.ownsMap_made ((w.setCell ⟨b, 0, none⟩ (.map (some (w.heap.size + 1)))).alloc (.cells #[.string s, .string i] 46)) Tryd.prog 46 (unitElem (H := Unit))
  have hsz : ((w.setCell ⟨b, 0, none⟩ (.map (some (w.heap.size + 1)))).alloc (.cells #[.string s, .string i] 46)).heap.size = w.heap.size + 1 := by simp [hss]
  rw [hsz] at OM
  have L1 := look_at OM.drew hk
  have L2 := look_at (OM.alloc (.cells #[] 56)).drew hk
  rw [show Maps.has (DataW.map [] : DataW Unit) (kl ⟨s, i⟩) = false by simp [Maps.has]] at L1 L2
  obtain ⟨w1, S1, O1, T1⟩ := ((OM.alloc (.cells #[] 56)).drew.drew).store law46 Tryd.underlying39 (by unfold maxLen; omega) hk unitElem_mk
  clear OM
  have EM := fun w => run_eql_map_nil (P := Tryd.prog) w 39 46 56 none Tryd.underlying39
  have hmm := @run_makeMap Tryd.prog
  -- the world behind the call
  have hb1 : w1.heap[b]? = some (.cells #[.map (some (w.heap.size + 1))] 41 (0, 0)) := by
    have e : some b ≠ some (w.heap.size + 1) := by simp; omega
    rw [T1.grown.block b (by simp [hss]; omega) e]
    show ((((w.setCell ⟨b, 0, none⟩ (.map (some (w.heap.size + 1)))).alloc (.cells #[.string s, .string i] 46)).alloc (.map #[] 0)).alloc (.cells #[] 56)).heap[b]? = _
    rw [(grown3 _ _ _ _).block b (by rw [hss]; exact hlt) (by simp), hs]
  have HG : w.grownBy w1 (some b) := by
    refine ⟨T1.grown.os, T1.grown.tape, T1.grown.output, ?_, ?_⟩
    · have := T1.grown.size
      simp [hss] at this
      omega
    · intro k hk hkb
      have e : some k ≠ some (w.heap.size + 1) := by simp; omega
      rw [T1.grown.block k (by simp [hss]; omega) e]
      show ((((w.setCell ⟨b, 0, none⟩ (.map (some (w.heap.size + 1)))).alloc (.cells #[.string s, .string i] 46)).alloc (.map #[] 0)).alloc (.cells #[] 56)).heap[k]? = _
      rw [(grown3 _ _ _ _).block k (by rw [hss]; exact hk) (by simp)]
      exact GS.block k hk hkb
  have HH := Lib.hid (And.intro hb1 (And.intro O1 HG))
  clear T1 O1 hb hb1 HG GS hs
  go_enter Tryd.func18, Tryd.ntmps18
  go_wp2_with fail
  go_region
  all_goals
    go_wp2_with fail
    go_region
  all_goals
    go_wp2_with fail
    go_ret
    exact ⟨rfl, w.heap.size + 1, by omega, HH.out.1, HH.out.2.1, HH.out.2.2⟩
end Go.Proofs.YtmfolfjmajmamaaDoor.Ss
