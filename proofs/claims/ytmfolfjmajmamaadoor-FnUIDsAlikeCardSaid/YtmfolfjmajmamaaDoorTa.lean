/-
  WALKS for FnUIDsAlike: the size checks zzFits7 (10), fewUIDs (11); impl.uids (25).
-/
import Derived.Test.YtmfolfjmajmamaaDoorSj
namespace Go.Proofs.YtmfolfjmajmamaaDoor.Al
open Go.RowKit Go.Maps Go.Proofs.YtmfolfjmajmamaaDoor.Ss

/-- identifiers that lie in memory, one behind the other -/
def IdsAt (g off n : Nat) (id : Nat → K) (w : World) : Prop := ∀ k, k < n →
  w.cell? ⟨g, off + k * 2, none⟩ = some (.string (id k).t) ∧ w.cell? ⟨g, off + k * 2 + 1, none⟩ = some (.string (id k).i)

theorem IdsAt.below {g off n B : Nat} {id : Nat → K} {w w' : World} (h : IdsAt g off n id w) (hb : Below B w w') (hg : g < B) : IdsAt g off n id w' := fun k hk =>
  ⟨(hb.cell (p := ⟨g, off + k * 2, none⟩) hg).trans (h k hk).1, (hb.cell (p := ⟨g, off + k * 2 + 1, none⟩) hg).trans (h k hk).2⟩

set_option maxHeartbeats 1000000 in
theorem fits10 (g off n c : Nat) (id : Nat → K) (w : World) (hg : g < w.heap.size) (hs : IdsAt g off n id w) :
    Calls Tryd.prog 10 #[.slice (some ⟨g, off, none⟩) n c] w fun e w' => IsBool e ∧ Below w.heap.size w w' := by
  have F := fits23
  simp only [kv] at F
  by_cases h1 : (2147483647 : Int) < (n : Int)
  · go_enter Tryd.func10, Tryd.ntmps10
    go_wp2_with fail
    go_ret
    exact ⟨⟨_, rfl⟩, Below.refl _ _⟩
  go_enter Tryd.func10, Tryd.ntmps10
  go_wp2_with fail
  go_loopw [10] (fun i wr => ∃ k : Nat, k ≤ n ∧ i = .int .i64 k ∧ Below w.heap.size w wr) (fun i _ => n - (intOf i).toNat)
  case atStart => exact ⟨0, Nat.zero_le _, rfl, Below.refl _ _⟩
  case round =>
    obtain ⟨k, hk, rfl, hB⟩ := hrel
    rcases Nat.lt_or_ge k n with hlt | hge
    · obtain ⟨c0, c1⟩ := hs k hlt
      have d0 := (hB.cell (p := ⟨g, off + k * 2, none⟩) hg).trans c0
      have d1 := (hB.cell (p := ⟨g, off + k * 2 + 1, none⟩) hg).trans c1
      have hlt' : (k : Int) < (n : Int) := by omega
      have HB := Lib.hid hB
      clear hB c0 c1
      go_wp2_with fail
      refine (F (id k) _).mono ?_
      rintro e w' ⟨⟨b, rfl⟩, hb⟩
      have HB2 := Lib.hid ((HB.out.alloc HB.out.size (.cells #[.string (id k).t, .string (id k).i] 29)).trans (hb.mono (by have := HB.out.size; simp; omega)))
      clear hb
      simp only []
      cases b
      · go_wp2_with fail
        go_ret
        exact ⟨⟨_, rfl⟩, HB2.out⟩
      · go_wp2_with fail
        go_roundw
        case rel => exact ⟨k + 1, by omega, by go_num, HB2.out⟩
        case measure => simp [intOf]; omega
    · have : k = n := by omega
      subst this
      have HB := Lib.hid hB
      clear hB
      go_wp2_with fail
      go_ret
      exact ⟨⟨_, rfl⟩, HB.out⟩

theorem fits10_none (a : Option Addr) (c : Nat) (w : World) : Calls Tryd.prog 10 #[.slice a 0 c] w fun e w' => IsBool e ∧ Below w.heap.size w w' := by
  go_enter Tryd.func10, Tryd.ntmps10
  go_wp2_with fail
  refine wp_loop_rounds 1 ?_
  rw [rounds_succ]
  go_wp2_with fail
  go_ret
  exact ⟨⟨_, rfl⟩, Below.refl _ _⟩

set_option maxHeartbeats 1000000 in
theorem few11 (g off n c : Nat) (id : Nat → K) (w : World) (hg : g < w.heap.size) (hs : IdsAt g off n id w) :
    Calls Tryd.prog 11 #[.slice (some ⟨g, off, none⟩) n c] w fun e w' => IsFew n e ∧ Below w.heap.size w w' := by
  have F := weight17
  simp only [kv] at F
  go_enter Tryd.func11, Tryd.ntmps11
  go_wp2_with fail
  go_loopw [3, 4] (fun l i wr => ∃ k : Nat, ∃ m : Int, k ≤ n ∧ k ≤ 201 ∧ l = .int .i64 m ∧ i = .int .i64 k ∧ Below w.heap.size w wr) (fun _ i _ => 201 - (intOf i).toNat)
  case atStart => exact ⟨0, 3000, Nat.zero_le _, Nat.zero_le _, rfl, rfl, Below.refl _ _⟩
  case round =>
    obtain ⟨k, m, hk, hk2, rfl, rfl, hB⟩ := hrel
    rcases Nat.lt_or_ge k n with hlt | hge
    · rcases Nat.lt_or_ge 200 k with h200 | h200
      · have hlt' : (k : Int) < (n : Int) := by omega
        have h200' : ¬ (k : Int) ≤ 200 := by omega
        have h200n : ¬ (n : Int) ≤ 200 := by omega
        have HB := Lib.hid hB
        clear hB
        go_wp2_with fail
        go_ret
        exact ⟨⟨_, rfl, fun h => by simp at h⟩, HB.out⟩
      · by_cases hm : (0 : Int) ≤ m
        · obtain ⟨c0, c1⟩ := hs k hlt
          have d0 := (hB.cell (p := ⟨g, off + k * 2, none⟩) hg).trans c0
          have d1 := (hB.cell (p := ⟨g, off + k * 2 + 1, none⟩) hg).trans c1
          have hlt' : (k : Int) < (n : Int) := by omega
          have h200' : (k : Int) ≤ 200 := by omega
          have HB := Lib.hid hB
          clear hB c0 c1
          go_wp2_with fail
          refine (F (id k) _ _).mono ?_
          rintro e w' ⟨⟨b, rfl⟩, hb⟩
          have HB2 := Lib.hid (HB.out.trans (hb.mono HB.out.size))
          clear hb
          simp only []
          go_wp2_with fail
          go_roundw
          case rel => exact ⟨k + 1, b, by omega, by omega, rfl, by go_num, HB2.out⟩
          case measure => simp [intOf]; omega
        · have hlt' : (k : Int) < (n : Int) := by omega
          have h200' : (k : Int) ≤ 200 := by omega
          have HB := Lib.hid hB
          clear hB
          by_cases hn2 : (n : Int) ≤ 200
          · go_wp2_with fail
            go_ret
            exact ⟨⟨_, rfl, fun h => by omega⟩, HB.out⟩
          · go_wp2_with fail
            go_ret
            exact ⟨⟨_, rfl, fun h => by simp at h⟩, HB.out⟩
    · have : k = n := by omega
      subst this
      have HB := Lib.hid hB
      clear hB
      by_cases hn2 : (k : Int) ≤ 200
      · by_cases hm : (0 : Int) ≤ m
        · go_wp2_with fail
          go_ret
          exact ⟨⟨_, rfl, fun h => by omega⟩, HB.out⟩
        · go_wp2_with fail
          go_ret
          exact ⟨⟨_, rfl, fun h => by omega⟩, HB.out⟩
      · go_wp2_with fail
        go_ret
        exact ⟨⟨_, rfl, fun h => by simp at h⟩, HB.out⟩

theorem few11_none (a : Option Addr) (c : Nat) (w : World) : Calls Tryd.prog 11 #[.slice a 0 c] w fun e w' => IsFew 0 e ∧ Below w.heap.size w w' := by
  go_enter Tryd.func11, Tryd.ntmps11
  go_wp2_with fail
  refine wp_loop_rounds 1 ?_
  rw [rounds_succ]
  go_wp2_with fail
  go_ret
  exact ⟨⟨_, rfl, fun _ => by omega⟩, Below.refl _ _⟩

theorem info46 : (Tryd.prog.info? 46).map (fun i => (i.zero, i.size, i.bytes)) = some (some (.agg #[.string ⟨#[]⟩, .string ⟨#[]⟩]), 2, 32) := by kernel_rfl

theorem two_cells46 {w : World} {s i : ByteArray} : ∀ j u, (kcells ⟨s, i⟩)[j]? = some u → (w.alloc (.cells #[.string s, .string i] 46)).cell? ⟨w.heap.size, j, none⟩ = some u := by
  intro j u h
  match j, h with
  | 0, h =>
    simp [kcells] at h
    subst h
    simp only [World.cell?]
    rw [heap_alloc_new w _]
    rfl
  | 1, h =>
    simp [kcells] at h
    subst h
    simp only [World.cell?]
    rw [heap_alloc_new w _]
    rfl
  | (j + 2), h => simp [kcells] at h

def idsL (id : Nat → K) (n : Nat) : List K := (List.range n).map id
theorem idsL_length (id : Nat → K) (n : Nat) : (idsL id n).length = n := by simp [idsL]
theorem idsL_succ (id : Nat → K) (n : Nat) : idsL id (n + 1) = idsL id n ++ [id n] := by simp [idsL, List.range_succ]

theorem row_base {e : TypeId} {w : World} {B size : Nat} {v : Value} {n : Nat} {xs : List Value} (hown : w.ownsRow B e size v n xs) : ∀ c, v.ownBlock = some c → B ≤ c := by
  intro c hc
  rcases hown.2 with ⟨rfl, _⟩ | ⟨g, cap, cur, rfl, hb, hg, _⟩
  · simp [Value.ownBlock] at hc
  · simp [Value.ownBlock] at hc
    subst hc
    exact hb

set_option maxHeartbeats 2000000 in
theorem uids25 (g off n c : Nat) (id : Nat → K) (w : World) (hn : n ≤ 1000) (hg : g < w.heap.size) (hs : IdsAt g off n id w) :
    Calls Tryd.prog 25 #[.slice (some ⟨g, off, none⟩) n c] w fun e w' => ∃ v, e = .returned v ∧ w'.ownsRow w.heap.size 46 2 v n (flatK (idsL id n)) ∧ Below w.heap.size w w' := by
  have U := uid19
  simp only [kv] at U
  go_enter Tryd.func25, Tryd.ntmps25
  go_wp2_with fail
  go_loopw [3, 8] (fun v i wr => ∃ k : Nat, k ≤ n ∧ i = .int .i64 k ∧ wr.ownsRow w.heap.size 46 2 v k (flatK (idsL id k)) ∧ Below w.heap.size w wr) (fun _ i _ => n - (intOf i).toNat)
  case atStart => exact ⟨0, Nat.zero_le _, rfl, World.ownsRow_nil _ _ _ _, Below.refl _ _⟩
  case round =>
    obtain ⟨k, hk, rfl, hO, hB⟩ := hrel
    rcases Nat.lt_or_ge k n with hlt | hge
    · obtain ⟨c0, c1⟩ := hs k hlt
      have d0 := (hB.cell (p := ⟨g, off + k * 2, none⟩) hg).trans c0
      have d1 := (hB.cell (p := ⟨g, off + k * 2 + 1, none⟩) hg).trans c1
      have hlt' : (k : Int) < (n : Int) := by omega
      have HB := Lib.hid hB
      have HO := Lib.hid hO
      have HL := Lib.hid (idsL_succ id k)
      obtain ⟨⟨s, i⟩, hid⟩ : ∃ y, id k = y := ⟨_, rfl⟩
      rw [hid] at d0 d1 HL
      simp only [] at d0 d1
      clear hB hO c0 c1 hid
      go_wp2_with fail
      refine (U ⟨s, i⟩ _).mono ?_
      rintro e w2 ⟨rfl, g2⟩
      have HB2 := Lib.hid ((HB.out.alloc HB.out.size (.cells #[.string s, .string i] 29)).grown g2 (by have := HB.out.size; simp; omega) (fun k e => by cases e))
      have HO2 := Lib.hid (((World.ownsRow.alloc HO.out (.cells #[.string s, .string i] 29)).kept g2 (by cases Value.ownBlock _ <;> simp)).alloc (.cells #[.string s, .string i] 46))
      clear g2
      simp only []
      go_wp2_with (at_builtin; refine wpList_append_one _ rfl (.tmp 12) (.tmp 15) 52 rfl w.heap.size 46 _ 2 32 Tryd.underlying52 info46 rfl (by decide) _ _ _ rfl HO2.out w2.heap.size (kcells ⟨s, i⟩) rfl rfl two_cells46 ?c2 ?c3 ?c4 ?c5 ?_)
      case c2 => exact flatK_one _
      case c3 => unfold maxLen; omega
      case c4 => omega
      case c5 => have := HB2.out.size; simp; omega
      intro v' wz hownz hgz
      have HZ := Lib.hid (And.intro hownz ((HB2.out.alloc HB2.out.size (.cells #[.string s, .string i] 46)).grown hgz (by have := HB2.out.size; simp; omega) (row_base HO2.out)))
      clear hownz hgz
      go_wp2_with fail
      go_roundw
      case rel => exact ⟨k + 1, by omega, by go_num, by rw [HL.out, flatK_append]; simpa [flatK] using HZ.out.1, HZ.out.2⟩
      case measure => simp [intOf]; omega
    · have : k = n := by omega
      subst this
      have HB := Lib.hid hB
      have HO := Lib.hid hO
      clear hB hO
      go_wp2_with fail
      go_ret
      exact ⟨_, rfl, HO.out, HB.out⟩

theorem uids25_none (a : Option Addr) (c : Nat) (w : World) : Calls Tryd.prog 25 #[.slice a 0 c] w fun e w' => e = .returned (.slice none 0 0) ∧ w' = w := by
  go_enter Tryd.func25, Tryd.ntmps25
  go_wp2_with fail
  refine wp_loop_rounds 1 ?_
  rw [rounds_succ]
  go_wp2_with fail
  go_ret
  exact ⟨rfl, rfl⟩
end Go.Proofs.YtmfolfjmajmamaaDoor.Al
