/-
  WALKS for FnUIDStepsList: the law (3). Printed by mkSi.py.
-/
import Derived.Test.YtmfolfjmajmamaaDoorSh
namespace Go.Proofs.YtmfolfjmajmamaaDoor.Ss
open Go.RowKit Go.Maps

/-- the loop's relation: the list that is held, all below as it was -/
def LRel (kd : Nat → Int) (id : Nat → K) (n : Nat) (w : World) (v i : Value) (wr : World) : Prop :=
  ∃ k : Nat, k ≤ n ∧ i = .int .i64 k ∧ HRow w.heap.size (heldAt kd id k) v wr ∧ Below w.heap.size w wr

/-- what the law's loop does -/
def LEnd (w : World) (e : Ending) (w' : World) : Prop := e = .returned (.bool true) ∧ Below w.heap.size w w'

theorem outs_cell {kd : Nat → Int} {id : Nat → K} {n B : Nat} {v : Value} {w : World} (h : w.ownsRow B 3 1 v n (outsV kd id n)) (hn : 0 < n) :
    ∃ g cap, v = .slice (some ⟨g, 0, none⟩) n cap ∧ B ≤ g ∧ g < w.heap.size ∧ ∀ j, j < n → w.cell? ⟨g, j, none⟩ = some (.int .i64 (outAt kd id j)) := by
  rcases h.2 with ⟨_, h0⟩ | ⟨g, cap, cur, hv, hb, hg, _, _, _, ht⟩
  · omega
  · refine ⟨g, cap, hv, hb, (Array.getElem?_eq_some_iff.1 hg).1, fun j hj => ?_⟩
    have h1 : (cur.toList.take (n * 1))[j]? = cur[j]? := by rw [List.getElem?_take, if_pos (by omega)]; simp
    simp only [World.cell?, hg]
    rw [← h1, ht]
    simp [outsV, hj]

theorem split_mem {x : K} {h : List K} (hm : x ∈ h) : ∃ h1 h2, h = h1 ++ x :: h2 ∧ x ∉ h1 := by
  obtain ⟨a, b, e, hn⟩ := List.eq_append_cons_of_mem hm
  exact ⟨a, b, e, hn⟩
theorem erase_split {x : K} {h1 h2 : List K} (hx : x ∉ h1) : (h1 ++ x :: h2).erase x = h1 ++ h2 := by
  rw [List.erase_append_right _ hx, List.erase_cons_head]

theorem two_cells {w : World} {s i : ByteArray} : ∀ j u, (kcells ⟨s, i⟩)[j]? = some u → (w.alloc (.cells #[.string s, .string i] 29)).cell? ⟨w.heap.size, j, none⟩ = some u := by
  intro j u h
  match j, h with
  | 0, h =>
    simp [kcells] at h
    subst h
    simp only [World.cell?]
    rw [heap_alloc_new w _]
    rfl
  | 1, h =>
    simp [kcells] at h
    subst h
    simp only [World.cell?]
    rw [heap_alloc_new w _]
    rfl
  | (j + 2), h => simp [kcells] at h

theorem HRow.app {B : Nat} {h : List K} {v' : Value} {s i : ByteArray} {w' : World} (hown : w'.ownsRow B 29 2 v' (h.length + 1) (flatK h ++ kcells ⟨s, i⟩)) : HRow B (h ++ [⟨s, i⟩]) v' w' := by
  unfold HRow
  rw [flatK_append]
  simpa [flatK] using hown

theorem row29_block {w : World} {B : Nat} {v : Value} {n : Nat} {xs : List Value} (hown : w.ownsRow B 29 2 v n xs) : ∀ c, v.ownBlock = some c → B ≤ c := by
  intro c hc
  rcases hown.2 with ⟨rfl, _⟩ | ⟨g, cap, cur, rfl, hb, hg, _⟩
  · simp [Value.ownBlock] at hc
  · simp [Value.ownBlock] at hc
    subst hc
    exact hb

set_option maxRecDepth 100000 in
set_option maxHeartbeats 2000000 in
theorem law3 (g off n c : Nat) (kd : Nat → Int) (id : Nat → K) (w : World) (hg : g < w.heap.size) (hn0 : 0 < n) (hs : StepsAt g off n kd id w) (hsm : ∀ k, k < n → small (id k)) :
    Calls Tryd.prog 3 #[.slice (some ⟨g, off, none⟩) n c] w (LEnd w) := by
  have F5 := fits5 g off n c kd id w hg hs
  go_enter Tryd.func3, Tryd.ntmps3
  go_wp2_with fail
  refine F5.mono ?_
  rintro e w1 ⟨⟨b, rfl⟩, hb1⟩
  have HB1 := Lib.hid hb1
  have hs1 : StepsAt g off n kd id w1 := fun k hk => ⟨(hb1.cell (p := ⟨g, _, none⟩) hg).trans (hs k hk).1, (hb1.cell (p := ⟨g, _, none⟩) hg).trans (hs k hk).2.1, (hb1.cell (p := ⟨g, _, none⟩) hg).trans (hs k hk).2.2⟩
  have hg1 := Nat.lt_of_lt_of_le hg hb1.size
  clear hb1 F5
  simp only []
  cases b
  · go_wp2_with fail
    go_ret
    exact ⟨rfl, HB1.out⟩
  have F6 := few6 g off n c kd id w1 hg1 hs1
  have HS1 := Lib.hid hs1
  clear hs1
  go_wp2_with fail
  refine F6.mono ?_
  rintro e w2 ⟨⟨b, rfl, hfew⟩, hb2⟩
  have HB2 := Lib.hid (HB1.out.trans (hb2.mono HB1.out.size))
  have hs2 : StepsAt g off n kd id w2 := fun k hk => ⟨(hb2.cell (p := ⟨g, _, none⟩) hg1).trans (HS1.out k hk).1, (hb2.cell (p := ⟨g, _, none⟩) hg1).trans (HS1.out k hk).2.1, (hb2.cell (p := ⟨g, _, none⟩) hg1).trans (HS1.out k hk).2.2⟩
  have hg2 := Nat.lt_of_lt_of_le hg1 hb2.size
  clear hb2 F6
  simp only []
  cases b
  · go_wp2_with fail
    go_ret
    exact ⟨rfl, HB2.out⟩
  have hn : n ≤ 200 := hfew rfl
  have F7 := steps7 g off n c kd id w2 hg2 hn hs2 hsm
  have HS2 := Lib.hid hs2
  clear hs2 hfew
  go_wp2_with fail
  refine F7.mono ?_
  rintro e w3 ⟨v, rfl, hown, hb3⟩
  have HB3 := Lib.hid (HB2.out.trans (hb3.mono HB2.out.size))
  have hs3 : StepsAt g off n kd id w3 := fun k hk => ⟨(hb3.cell (p := ⟨g, _, none⟩) hg2).trans (HS2.out k hk).1, (hb3.cell (p := ⟨g, _, none⟩) hg2).trans (HS2.out k hk).2.1, (hb3.cell (p := ⟨g, _, none⟩) hg2).trans (HS2.out k hk).2.2⟩
  have hg3 := Nat.lt_of_lt_of_le hg2 hb3.size
  obtain ⟨go, co, rfl, hBo, hgo, hco⟩ := outs_cell hown hn0
  have HS3 := Lib.hid hs3
  have HCO := Lib.hid hco
  clear hs3 hown hb3 F7 HS1 HS2 hs hco hBo
  simp only []
  go_wp2_with fail
  go_loopw [4, 5] (fun v i wr => LRel kd id n w3 v i wr) (fun _ i _ => n - (intOf i).toNat)
  case atStart => exact ⟨0, Nat.zero_le _, rfl, World.ownsRow_nil _ _ _ _, Below.refl _ _⟩
  case round =>
    obtain ⟨k, hk, rfl, hR, hB⟩ := hrel
    rcases Nat.lt_or_ge k n with hlt | hge
    · obtain ⟨c0, c1, c2⟩ := HS3.out k hlt
      have d0 := (hB.cell (p := ⟨g, off + k * 3, none⟩) hg3).trans c0
      have d1 := (hB.cell (p := ⟨g, off + k * 3 + 1, none⟩) hg3).trans c1
      have d2 := (hB.cell (p := ⟨g, off + k * 3 + 2, none⟩) hg3).trans c2
      have e0 := (hB.cell (p := ⟨go, k, none⟩) hgo).trans (HCO.out k hlt)
      clear c0 c1 c2
      have hlt' : (k : Int) < (n : Int) := by omega
      have hlk := heldAt_length kd id k
      have hstep : ∀ h' y, stepL (heldAt kd id k) (kd k) (id k) = (h', y) → h' = heldAt kd id (k + 1) ∧ y = outAt kd id k := fun h' y e => ⟨by simp only [heldAt, e], by simp only [outAt, e]⟩
      obtain ⟨kk, hkk⟩ : ∃ y, kd k = y := ⟨_, rfl⟩
      obtain ⟨⟨s, i⟩, hid⟩ : ∃ y, id k = y := ⟨_, rfl⟩
      rw [hkk] at d0 hstep
      rw [hid] at d1 d2 hstep
      simp only [] at d1 d2
      obtain ⟨hl, hhl⟩ : ∃ l, heldAt kd id k = l := ⟨_, rfl⟩
      rw [hhl] at hR hstep hlk
      obtain ⟨ov, hov⟩ : ∃ y, outAt kd id k = y := ⟨_, rfl⟩
      rw [hov] at e0 hstep
      obtain ⟨hn1, hnx⟩ : ∃ l, heldAt kd id (k + 1) = l := ⟨_, rfl⟩
      rw [hnx] at hstep
      have hREL : ∀ (v' : Value) (w' : World), HRow w3.heap.size hn1 v' w' → Below w3.heap.size w3 w' → LRel kd id n w3 v' (.int .i64 ((k + 1 : Nat) : Int)) w' := fun v' w' a b => ⟨k + 1, by omega, rfl, by rw [hnx]; exact a, b⟩
      clear hkk hid hhl hnx
      have HRL := Lib.hid hREL
      have hc1 := HCO.out k hlt
      rw [hov] at hc1
      have HCO1 := Lib.hid hc1
      clear hc1
      have HR := Lib.hid hR
      have HB := Lib.hid hB
      have HSZ := Lib.hid hB.size
      clear hREL hR hB hov
      by_cases hm : K.mk s i ∈ hl
      · obtain ⟨h1, h2, rfl, hx1⟩ := split_mem hm
        have hb1 : (h1.length : Int) ≤ 200 := by have := hlk; simp at this; omega
        have IX := hidx_in HR.out hx1 (by omega)
        simp only [kv] at IX

        by_cases k0 : kk = 0
        · subst k0
          obtain ⟨rfl, rfl⟩ := hstep (h1 ++ K.mk s i :: h2) (0) (by simp [stepL])
          have hi0 : ¬ ((h1.length : Int) < 0) := by omega

          go_wp2_with fail
          refine IX.mono ?_
          rintro e w4 ⟨rfl, g4⟩
          have HR4 := Lib.hid (HR.out.none g4)
          have HB4 := Lib.hid (HB.out.grown g4 HSZ.out (fun k e => by cases e))
          have d40 := grown_cell g4 d0
          have d41 := grown_cell g4 d1
          have d42 := grown_cell g4 d2
          have e40 := grown_cell g4 e0
          clear g4 d0 d1 d2 e0
          simp only []

          go_wp2_with fail
          go_roundw
          case rel => exact HRL.out _ _ HR4.out HB4.out
          case measure => simp [intOf]; omega

        have t0 : (kk == 0) = false := beq_eq_false_iff_ne.2 k0
        by_cases k1 : kk = 1
        · subst k1
          obtain ⟨rfl, rfl⟩ := hstep (h1 ++ h2) (1) (by simp [stepL, erase_split hx1])
          have hi0 : (0 : Int) ≤ (h1.length : Int) := by omega

          go_wp2_with fail
          refine IX.mono ?_
          rintro e w4 ⟨rfl, g4⟩
          have HR4 := Lib.hid (HR.out.none g4)
          have HB4 := Lib.hid (HB.out.grown g4 HSZ.out (fun k e => by cases e))
          have d40 := grown_cell g4 d0
          have d41 := grown_cell g4 d1
          have d42 := grown_cell g4 d2
          have e40 := grown_cell g4 e0
          clear g4 d0 d1 d2 e0
          simp only []

          have D := hdel HR4.out (by omega) HB4.out.size
          go_wp2_with fail
          refine D.mono ?_
          rintro e w5 ⟨v5, rfl, hr5, hb5⟩
          have HR5 := Lib.hid hr5
          have HB5 := Lib.hid (HB4.out.trans hb5)
          have e50 := (hb5.cell (p := ⟨go, k, none⟩) hgo).trans e40
          clear hr5 hb5
          simp only []

          go_wp2_with fail
          go_roundw
          case rel => exact HRL.out _ _ HR5.out HB5.out
          case measure => simp [intOf]; omega

        have t1 : (kk == 1) = false := beq_eq_false_iff_ne.2 k1
        by_cases k2 : kk = 2
        · subst k2
          obtain ⟨rfl, rfl⟩ := hstep (h1 ++ K.mk s i :: h2) (1) (by simp [stepL])
          have hi0 : (0 : Int) ≤ (h1.length : Int) := by omega

          go_wp2_with fail
          refine IX.mono ?_
          rintro e w4 ⟨rfl, g4⟩
          have HR4 := Lib.hid (HR.out.none g4)
          have HB4 := Lib.hid (HB.out.grown g4 HSZ.out (fun k e => by cases e))
          have d40 := grown_cell g4 d0
          have d41 := grown_cell g4 d1
          have d42 := grown_cell g4 d2
          have e40 := grown_cell g4 e0
          clear g4 d0 d1 d2 e0
          simp only []

          go_wp2_with fail
          go_roundw
          case rel => exact HRL.out _ _ HR4.out HB4.out
          case measure => simp [intOf]; omega

        have t2 : (kk == 2) = false := beq_eq_false_iff_ne.2 k2
        by_cases k3 : kk = 3
        · subst k3
          obtain ⟨rfl, rfl⟩ := hstep ((h1 ++ K.mk s i :: h2)) (((h1 ++ K.mk s i :: h2).length : Int)) (by rfl)

          go_wp2_with fail
          refine IX.mono ?_
          rintro e w4 ⟨rfl, g4⟩
          have HR4 := Lib.hid (HR.out.none g4)
          have HB4 := Lib.hid (HB.out.grown g4 HSZ.out (fun k e => by cases e))
          have d40 := grown_cell g4 d0
          have d41 := grown_cell g4 d1
          have d42 := grown_cell g4 d2
          have e40 := grown_cell g4 e0
          clear g4 d0 d1 d2 e0
          simp only []

          obtain ⟨ah, ch, hvh⟩ : ∃ a c, u4 = .slice a (h1 ++ K.mk s i :: h2).length c := by
            rcases HR4.out.2 with ⟨hv, h0⟩ | ⟨g, cap, cur, hv, _⟩
            · exact ⟨none, 0, by rw [hv, h0]⟩
            · exact ⟨_, _, hv⟩
          subst hvh

          go_wp2_with fail
          go_roundw
          case rel => exact HRL.out _ _ HR4.out HB4.out
          case measure => simp [intOf]; omega

        have t3 : (kk == 3) = false := beq_eq_false_iff_ne.2 k3

        go_wp2_with fail
        refine IX.mono ?_
        rintro e w4 ⟨rfl, g4⟩
        have HR4 := Lib.hid (HR.out.none g4)
        have HB4 := Lib.hid (HB.out.grown g4 HSZ.out (fun k e => by cases e))
        have d40 := grown_cell g4 d0
        have d41 := grown_cell g4 d1
        have d42 := grown_cell g4 d2
        have e40 := grown_cell g4 e0
        clear g4 d0 d1 d2 e0
        simp only []

        go_wp2_with fail
        go_ret
        exact ⟨rfl, HB3.out.trans (HB4.out.mono HB3.out.size)⟩
      · have IX := hidx_out HR.out ⟨s, i⟩ hm (by omega)
        simp only [kv] at IX

        by_cases k0 : kk = 0
        · subst k0
          obtain ⟨rfl, rfl⟩ := hstep (hl ++ [K.mk s i]) (1) (by simp [stepL, hm])

          go_wp2_with fail
          refine IX.mono ?_
          rintro e w4 ⟨rfl, g4⟩
          have HR4 := Lib.hid (HR.out.none g4)
          have HB4 := Lib.hid (HB.out.grown g4 HSZ.out (fun k e => by cases e))
          have d40 := grown_cell g4 d0
          have d41 := grown_cell g4 d1
          have d42 := grown_cell g4 d2
          have e40 := grown_cell g4 e0
          clear g4 d0 d1 d2 e0
          simp only []

          have HX := Lib.hid (World.ownsRow.alloc HR4.out (.cells #[.string s, .string i] 29))
          have H4S := Lib.hid (HB4.out.size)
          go_wp2_with (at_builtin; refine wpList_append_one _ rfl (.tmp 43) (.tmp 49) 26 rfl w3.heap.size 29 _ 2 32 Tryd.underlying26 info29 rfl (by decide) _ _ _ rfl HX.out w4.heap.size (kcells ⟨s, i⟩) rfl rfl two_cells ?c2 ?c3 ?c4 ?c5 ?_)
          case c2 => exact flatK_one _
          case c3 => unfold maxLen; omega
          case c4 => omega
          case c5 => have := H4S.out; simp; omega
          intro v' wz hownz hgz
          have HZ := Lib.hid (And.intro (HRow.app hownz) ((HB4.out.alloc H4S.out (.cells #[.string s, .string i] 29)).grown hgz (by have := H4S.out; simp; omega) (row29_block HX.out)))
          have ez : wz.cell? ⟨go, k, none⟩ = some (.int .i64 1) := (HZ.out.2.cell (p := ⟨go, k, none⟩) hgo).trans (HCO1.out)
          clear hownz hgz

          go_wp2_with fail
          go_roundw
          case rel => exact HRL.out _ _ HZ.out.1 HZ.out.2
          case measure => simp [intOf]; omega

        have t0 : (kk == 0) = false := beq_eq_false_iff_ne.2 k0
        by_cases k1 : kk = 1
        · subst k1
          obtain ⟨rfl, rfl⟩ := hstep (hl) (0) (by simp [stepL, hm])

          go_wp2_with fail
          refine IX.mono ?_
          rintro e w4 ⟨rfl, g4⟩
          have HR4 := Lib.hid (HR.out.none g4)
          have HB4 := Lib.hid (HB.out.grown g4 HSZ.out (fun k e => by cases e))
          have d40 := grown_cell g4 d0
          have d41 := grown_cell g4 d1
          have d42 := grown_cell g4 d2
          have e40 := grown_cell g4 e0
          clear g4 d0 d1 d2 e0
          simp only []

          go_wp2_with fail
          go_roundw
          case rel => exact HRL.out _ _ HR4.out HB4.out
          case measure => simp [intOf]; omega

        have t1 : (kk == 1) = false := beq_eq_false_iff_ne.2 k1
        by_cases k2 : kk = 2
        · subst k2
          obtain ⟨rfl, rfl⟩ := hstep (hl) (0) (by simp [stepL, hm])

          go_wp2_with fail
          refine IX.mono ?_
          rintro e w4 ⟨rfl, g4⟩
          have HR4 := Lib.hid (HR.out.none g4)
          have HB4 := Lib.hid (HB.out.grown g4 HSZ.out (fun k e => by cases e))
          have d40 := grown_cell g4 d0
          have d41 := grown_cell g4 d1
          have d42 := grown_cell g4 d2
          have e40 := grown_cell g4 e0
          clear g4 d0 d1 d2 e0
          simp only []

          go_wp2_with fail
          go_roundw
          case rel => exact HRL.out _ _ HR4.out HB4.out
          case measure => simp [intOf]; omega

        have t2 : (kk == 2) = false := beq_eq_false_iff_ne.2 k2
        by_cases k3 : kk = 3
        · subst k3
          obtain ⟨rfl, rfl⟩ := hstep (hl) ((hl.length : Int)) (by rfl)

          go_wp2_with fail
          refine IX.mono ?_
          rintro e w4 ⟨rfl, g4⟩
          have HR4 := Lib.hid (HR.out.none g4)
          have HB4 := Lib.hid (HB.out.grown g4 HSZ.out (fun k e => by cases e))
          have d40 := grown_cell g4 d0
          have d41 := grown_cell g4 d1
          have d42 := grown_cell g4 d2
          have e40 := grown_cell g4 e0
          clear g4 d0 d1 d2 e0
          simp only []

          obtain ⟨ah, ch, hvh⟩ : ∃ a c, u4 = .slice a hl.length c := by
            rcases HR4.out.2 with ⟨hv, h0⟩ | ⟨g, cap, cur, hv, _⟩
            · exact ⟨none, 0, by rw [hv, h0]⟩
            · exact ⟨_, _, hv⟩
          subst hvh

          go_wp2_with fail
          go_roundw
          case rel => exact HRL.out _ _ HR4.out HB4.out
          case measure => simp [intOf]; omega

        have t3 : (kk == 3) = false := beq_eq_false_iff_ne.2 k3

        go_wp2_with fail
        refine IX.mono ?_
        rintro e w4 ⟨rfl, g4⟩
        have HR4 := Lib.hid (HR.out.none g4)
        have HB4 := Lib.hid (HB.out.grown g4 HSZ.out (fun k e => by cases e))
        have d40 := grown_cell g4 d0
        have d41 := grown_cell g4 d1
        have d42 := grown_cell g4 d2
        have e40 := grown_cell g4 e0
        clear g4 d0 d1 d2 e0
        simp only []

        go_wp2_with fail
        go_ret
        exact ⟨rfl, HB3.out.trans (HB4.out.mono HB3.out.size)⟩
    · have : k = n := by omega
      subst this
      have HB := Lib.hid hB
      clear hB
      go_wp2_with fail
      go_ret
      exact ⟨rfl, HB3.out.trans (HB.out.mono HB3.out.size)⟩
end Go.Proofs.YtmfolfjmajmamaaDoor.Ss
