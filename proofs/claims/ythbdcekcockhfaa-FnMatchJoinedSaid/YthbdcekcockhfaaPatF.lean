/-
  WALKS of the pattern functions, sixth part: Pattern.Match (15).
-/
import Derived.Test.YthbdcekcockhfaaPatE
import Derived.WalkMore
import Derived.Deep.LoopGhost
namespace Go.Proofs.Ythbdcekcockhfaa.Pat
open Go.RowKit

/-- a slice value that reads as a list of components -/
def CompsAt (w : World) (v : Value) (cs : List (Bool × Bs)) : Prop :=
  ∃ a c, v = .slice a cs.length c ∧ (cs = [] ∨ ∃ g, a = some ⟨g, 0, none⟩ ∧ g < w.heap.size ∧ ∀ i, i < cs.length → w.cell? ⟨g, i * 2, none⟩ = some (.bool (cs.getD i (false, [])).1) ∧ w.cell? ⟨g, i * 2 + 1, none⟩ = some (.string ⟨(cs.getD i (false, [])).2.toArray⟩))

theorem comps_of_own {w : World} {B : Nat} {v : Value} {cs : List (Bool × Bs)} (h : w.ownsRow B 46 2 v cs.length (flat cs)) : CompsAt w v cs := by
  have hc := h
  rcases h.2 with ⟨rfl, h0⟩ | ⟨g, cap, cur, rfl, hg, hh, _⟩
  · have := List.length_eq_zero_iff.1 h0
    subst this
    exact ⟨none, 0, rfl, .inl rfl⟩
  · refine ⟨some ⟨g, 0, none⟩, cap, rfl, .inr ⟨g, rfl, lt_of_block hh, fun i hi => ⟨?_, ?_⟩⟩⟩
    · rw [hc.cellAt _ (by omega), flat_get0 cs i hi]
    · rw [hc.cellAt _ (by omega), flat_get1 cs i hi]

/-- how the relation of Match's loop reads -/
structure MatRel (w : World) (v : Value) (cs : List (Bool × Bs)) (s : ByteArray) (k : Nat) (x : ByteArray) (wr : World) : Prop where
  go : PM.goM (cs.drop k) (bs x) = PM.goM cs (bs s)
  bel : Below w.heap.size w wr
  box : wr.heap[w.heap.size]? = some (.cells #[v] 36 (0, 0))

theorem drop_cons (cs : List (Bool × Bs)) (k : Nat) (h : k < cs.length) (wl : Bool) (lit : Bs) (hc : cs.getD k (false, []) = (wl, lit)) : cs.drop k = (wl, lit) :: cs.drop (k + 1) := by
  rw [List.drop_eq_getElem_cons h, ← hc]
  simp [List.getD_eq_getElem?_getD, List.getElem?_eq_getElem h]

theorem step_star (r : List (Bool × Bs)) (x : Bs) : PM.goM ((true, []) :: r) x = true := by simp [PM.goM]
theorem step_ok {wl : Bool} {lit x t : Bs} {r : List (Bool × Bs)} (h1 : (wl && lit.isEmpty) = false) (h2 : PM.chunk lit x = some t) (h3 : t = [] ∨ r ≠ []) : PM.goM ((wl, lit) :: r) x = PM.goM r t := by
  rw [PM.goM, h1, h2]
  have : (t.isEmpty || !r.isEmpty) = true := by rcases h3 with h | h <;> simp [h]
  simp [this]
/-- the piece does not stand at the head, or stands there and is not all although it is the last one -/
def Miss (lit x : Bs) (r : List (Bool × Bs)) : Prop := PM.chunk lit x = none ∨ ∃ t, PM.chunk lit x = some t ∧ t ≠ [] ∧ r = []
theorem step_no {lit x : Bs} {r : List (Bool × Bs)} (h : Miss lit x r) : PM.goM ((false, lit) :: r) x = false := by
  rw [PM.goM]
  rcases h with h | ⟨t, h, ht, rfl⟩
  · simp [h]
  · simp [h, ht]
theorem step_search {lit x : Bs} {r : List (Bool × Bs)} (h0 : lit ≠ []) (h : Miss lit x r) : PM.goM ((true, lit) :: r) x = (match PM.srch lit r.isEmpty x with | some t => PM.goM r t | none => false) := by
  rw [PM.goM]
  rcases h with h | ⟨t, h, ht, rfl⟩
  · simp [h, h0]
    cases PM.srch lit r.isEmpty x <;> rfl
  · simp [h, ht, h0]
    cases PM.srch lit true x <;> rfl
theorem sz_mk (l : Bs) : (ByteArray.mk l.toArray).size = l.length := List.size_toArray
theorem bs_mk (l : Bs) : bs (ByteArray.mk l.toArray) = l := rfl

/-- matchChunk's contract, what it hands back under two names -/
theorem chunk_known (c s : ByteArray) (hc : c.size ≤ 4611686018427387904) (hs : s.size ≤ 4611686018427387904) :
    ∃ (t : ByteArray) (ok : Bool), (ok = true → PM.chunk (bs c) (bs s) = some (bs t)) ∧ (ok = false → PM.chunk (bs c) (bs s) = none) ∧ (t.size ≤ s.size) ∧
      ∀ w, Calls Try.prog 19 #[.string c, .string s] w fun e w' => e = .returned (.tuple #[.string t, .bool ok]) ∧ ∃ n, w' = w.drewN n := by
  refine ⟨chunkT c s, chunkB c s, ?_, ?_, ?_, fun w => chunk19 c s w hc hs⟩
  · intro h
    unfold chunkB at h
    unfold chunkT
    cases hh : PM.chunk (bs c) (bs s) with
    | none => rw [hh] at h; cases h
    | some t => rfl
  · intro h
    unfold chunkB at h
    simpa using h
  · unfold chunkT
    rw [sz_mk]
    cases hh : PM.chunk (bs c) (bs s) with
    | none => exact Nat.zero_le _
    | some t =>
      have := congrArg List.length (PM.chunk_some.1 hh)
      rw [List.length_append, bs_len, bs_len] at this
      show t.length ≤ s.size
      omega

theorem end_bool (y : ByteArray) : PM.goM [] (bs y) = ((y.size : Int) == 0) := by
  rw [PM.goM, Bool.eq_iff_iff]
  simp only [List.isEmpty_iff, beq_iff_eq]
  constructor
  · intro h; have := bs_len y; rw [h] at this; simp at this; omega
  · intro h; exact bs_nil y (by omega)

theorem quiet_add {P : Program} {f : FuncId} {args : Array Value} {w : World} {a n : Nat} {v : Value}
    (h : Calls P f args (w.drewN (a + n)) fun e w' => e = .returned v ∧ ∃ m, w' = (w.drewN (a + n)).drewN m) :
    Calls P f args (w.drewN (a + n)) fun e w'' => e = .returned v ∧ ∃ m, w'' = w.drewN (a + m) :=
  h.mono fun _ _ ⟨he, m, hm⟩ => ⟨he, n + m, by rw [hm, World.drewN_drewN, Nat.add_assoc]⟩
theorem box_alloc {w : World} {b : Nat} {o : Obj} (h : w.heap[b]? = some o) (o' : Obj) : (w.alloc o').heap[b]? = some o := by
  rw [Below.heap_alloc _ _ _ (lt_of_block h)]; exact h
theorem bs_extract (y : ByteArray) (j : Nat) : bs (y.extract j y.size) = (bs y).drop j := by
  cases y with
  | mk a => cases a with | mk l => simp only [bs, ByteArray.data_extract, ByteArray.size]; simp; rw [List.take_of_length_le (by simp)]
theorem srch_cons (lit : Bs) (last : Bool) (x : Bs) (j : Nat) (h : j < x.length) :
    (PM.chunk lit (x.drop (j + 1)) = none → PM.srch lit last (x.drop j) = PM.srch lit last (x.drop (j + 1))) ∧
    (∀ t, PM.chunk lit (x.drop (j + 1)) = some t → (last = false ∨ t = []) → PM.srch lit last (x.drop j) = some t) ∧
    (∀ t, PM.chunk lit (x.drop (j + 1)) = some t → last = true → t ≠ [] → PM.srch lit last (x.drop j) = PM.srch lit last (x.drop (j + 1))) := by
  rw [List.drop_eq_getElem_cons h]
  refine ⟨fun h => ?_, fun t h h2 => ?_, fun t h h2 h3 => ?_⟩
  · rw [PM.srch, h]
  · rw [PM.srch, h]
    have : (last && !t.isEmpty) = false := by rcases h2 with h2 | h2 <;> simp [h2]
    simp [this]
  · rw [PM.srch, h]
    have : (last && !t.isEmpty) = true := by simp [h2, h3]
    simp [this]

set_option maxRecDepth 100000 in
set_option maxHeartbeats 2000000 in
theorem match15 (v : Value) (cs : List (Bool × Bs)) (s : ByteArray) (w : World) (hv : CompsAt w v cs) (hlen : cs.length ≤ 1000000) (hs : s.size ≤ 1000000) (hll : ∀ i, i < cs.length → (cs.getD i (false, [])).2.length ≤ 1000000) :
    Calls Try.prog 15 #[.agg #[v], .string s] w fun e w' => e = .returned (.bool (PM.goM cs (bs s))) ∧ Below w.heap.size w w' := by
  obtain ⟨a, c, rfl, hl⟩ := hv
  rcases hl with rfl | ⟨g, rfl, hg, hc⟩
  · have HE := Lib.hid (end_bool s)
    show Calls Try.prog 15 #[.agg #[.slice a 0 c], .string s] w _
    clear hlen hll
    go_enter Try.func15, Try.ntmps15
    go_wp2
    go_step3
    go_wp2
    go_step3
    go_wp2
    refine wp_loop_rounds 1 ?_
    rw [rounds_succ]
    go_wp2
    try rw [Exit.noGoto_ret]
    go_ret
    exact ⟨by rw [HE.out]; rfl, (Below.refl _ _).alloc (Nat.le_refl _) _⟩
  · have HC := Lib.hid hc
    have HL := Lib.hid hll
    clear hc hll
    go_enter Try.func15, Try.ntmps15
    go_wp2
    go_step3
    go_wp2
    go_step3
    go_wp2
    go_loopw [1, 16] (fun x i wr => ∃ (k : Nat) (y : ByteArray), k ≤ cs.length ∧ y.size ≤ 1000000 ∧ x = .string y ∧ i = .int .i64 k ∧ MatRel w (.slice (some ⟨g, 0, none⟩) cs.length c) cs s k y wr) (fun _ i _ => cs.length - (intOf i).toNat)
    case atStart => exact ⟨0, s, Nat.zero_le _, hs, rfl, rfl, ⟨rfl, (Below.refl _ _).alloc (Nat.le_refl _) _, heap_alloc_new _ _⟩⟩
    case round =>
      obtain ⟨k, y, hk, hy, rfl, rfl, hr⟩ := hrel
      by_cases hlt : k < cs.length
      · obtain ⟨hb0, hl0⟩ := HC.out k hlt
        have hb1 := (hr.bel.cell (p := ⟨g, k * 2, none⟩) hg).trans hb0
        have hl1 := (hr.bel.cell (p := ⟨g, k * 2 + 1, none⟩) hg).trans hl0
        have hbox := cell_of_one hr.box
        have hsz := lt_of_block hr.box
        have HR := Lib.hid hr
        clear hr hb0 hl0
        have hlits : (cs.getD k (false, [])).2.length ≤ 1000000 := HL.out k hlt
        generalize hcd : cs.getD k (false, []) = cd at hb1 hl1 hlits
        obtain ⟨wl, lit⟩ := cd
        have hstep := HR.out.go
        rw [drop_cons cs k hlt wl lit hcd] at hstep
        have HST := Lib.hid hstep
        clear hcd hstep
        obtain ⟨t, ok, ht1, ht2, ht3, hcall⟩ := chunk_known ⟨lit.toArray⟩ y (by rw [sz_mk]; simp only at hlits; omega) (by omega)
        have HT1 := Lib.hid ht1
        have HT2 := Lib.hid ht2
        have HCALL := Lib.hid hcall
        clear ht1 ht2 hcall
        have HLAST : Hid ((cs.drop (k + 1)).isEmpty = decide (k + 1 = cs.length)) := by
          show _ = _
          rw [Bool.eq_iff_iff]
          simp
          omega
        have SZ1 : w.heap.size ≤ wr.heap.size := by omega
        by_cases hstar : wl = true ∧ lit = []
        · obtain ⟨rfl, rfl⟩ := hstar
          have HV := Lib.hid (HST.out.symm.trans (step_star _ _))
          clear ht3
          go_wp2_with fail
          try rw [Exit.noGoto_ret]
          go_ret
          rw [HV.out]
          exact ⟨rfl, HR.out.bel.alloc SZ1 _⟩
        · have hw : (wl && lit.isEmpty) = false := by
            cases wl <;> simp at hstar ⊢
            exact hstar
          have HW := Lib.hid hw
          clear hw
          have ht4 : t.size ≤ 1000000 := by omega
          simp only at hlits
          have hlast : ((k : Int) == (cs.length : Int) - 1) = true ∧ k + 1 = cs.length ∨ ((k : Int) == (cs.length : Int) - 1) = false ∧ k + 1 ≠ cs.length := by
            by_cases h : k + 1 = cs.length
            · exact .inl ⟨beq_iff_eq.2 (by omega), h⟩
            · exact .inr ⟨beq_eq_false_iff_ne.2 (by omega), h⟩
          cases ok with
          | true =>
            by_cases hz : t.size = 0
            · have hz1 : ((t.size : Int) == 0) = true := beq_iff_eq.2 (by omega)
              have HN := Lib.hid (HST.out.symm.trans (step_ok HW.out (HT1.out rfl) (.inl (bs_nil t hz))))
              clear hz hlast
              cases wl with
              | false =>
                clear hstar
                go_wp2_with (go_at_call 19; refine (HCALL.out _).mono ?_; rintro e w' ⟨rfl, n, rfl⟩)
                exact ⟨⟨k + 1, t, by omega, ht4, rfl, by go_num, HN.out.symm, (HR.out.bel.alloc SZ1 _).trans (below_drewN (Below.refl _ _) n), (box_alloc HR.out.box _).trans rfl⟩, by simp [intOf]; omega⟩
              | true =>
                have hln : lit ≠ [] := fun h => hstar ⟨rfl, h⟩
                have hf1 : lit.isEmpty = false := by simpa using hln
                have hf2 : (lit == []) = false := by simpa using hln
                have HLN := Lib.hid hln
                clear hln hstar
                go_wp2_with (go_at_call 19; refine (HCALL.out _).mono ?_; rintro e w' ⟨rfl, n, rfl⟩)
                exact ⟨⟨k + 1, t, by omega, ht4, rfl, by go_num, HN.out.symm, (HR.out.bel.alloc SZ1 _).trans (below_drewN (Below.refl _ _) n), (box_alloc HR.out.box _).trans rfl⟩, by simp [intOf]; omega⟩
            · have hz1 : ((t.size : Int) == 0) = false := beq_eq_false_iff_ne.2 (by omega)
              rcases hlast with ⟨hl, hke⟩ | ⟨hl, hke⟩
              · have hmiss : Miss lit (bs y) (cs.drop (k + 1)) := .inr ⟨bs t, HT1.out rfl, fun h => hz (by rw [← bs_len, h]; rfl), List.drop_eq_nil_of_le (by omega)⟩
                have HKE := Lib.hid hke
                clear hz
                cases wl with
                | false =>
                  clear hstar
                  have HV := Lib.hid (HST.out.symm.trans (step_no hmiss))
                  clear ht3 hmiss
                  go_wp2_with (go_at_call 19; refine (HCALL.out _).mono ?_; rintro e w' ⟨rfl, n, rfl⟩)
                  try rw [Exit.noGoto_ret]
                  go_ret
                  rw [HV.out]
                  exact ⟨rfl, (HR.out.bel.alloc SZ1 _).trans (below_drewN (Below.refl _ _) n)⟩
                | true =>
                  have hln : lit ≠ [] := fun h => hstar ⟨rfl, h⟩
                  have hf1 : lit.isEmpty = false := by simpa using hln
                  have hf2 : (lit == []) = false := by simpa using hln
                  have HLN := Lib.hid hln
                  clear hln hstar
                  have hsr := HST.out.symm.trans (step_search HLN.out hmiss)
                  rw [HLAST.out, show decide (k + 1 = cs.length) = true from by simp; omega] at hsr
                  have HSR := Lib.hid hsr
                  clear ht3 hmiss hsr
                  go_wp2_with fail
                  refine (HCALL.out _).mono ?_
                  rintro e w1 ⟨rfl, hw1⟩
                  have hcb : w1.cell? ⟨wr.heap.size, 0, none⟩ = some (.bool true) := by obtain ⟨n, rfl⟩ := hw1; exact cell_of_row _ _ _ _ _ _ (heap_alloc_new wr _)
                  have hcl : w1.cell? ⟨wr.heap.size, 1, none⟩ = some (.string ⟨lit.toArray⟩) := by obtain ⟨n, rfl⟩ := hw1; exact cell_of_row _ _ _ _ _ _ (heap_alloc_new wr _)
                  have hbel1 : Below w.heap.size w w1 := by obtain ⟨n, rfl⟩ := hw1; exact (HR.out.bel.alloc SZ1 _).trans (below_drewN (Below.refl _ _) n)
                  have hbox1 : w1.heap[w.heap.size]? = some (.cells #[.slice (some ⟨g, 0, none⟩) cs.length c] 36 (0, 0)) := by obtain ⟨n, rfl⟩ := hw1; exact box_alloc HR.out.box _
                  have HB1 := Lib.hid hbel1
                  have HX1 := Lib.hid hbox1
                  clear hw1 hbel1 hbox1 HCALL
                  simp only []
                  go_wp2_with fail
                  go_loopw [1, 10] (fun x i wx => ∃ (j n : Nat), j ≤ y.size ∧ x = .string y ∧ i = .int .i64 j ∧ PM.srch lit true ((bs y).drop j) = PM.srch lit true (bs y) ∧ wx = w1.drewN n) (fun _ i _ => y.size - (intOf i).toNat)
                  case atStart => exact ⟨0, 0, Nat.zero_le _, rfl, rfl, rfl, rfl⟩
                  case round =>
                    obtain ⟨j, n2, hj, rfl, rfl, hsj, rfl⟩ := hrel
                    have HSJ := Lib.hid hsj
                    clear hsj
                    by_cases hjl : j < y.size
                    · obtain ⟨t2, ok2, hu1, hu2, hu3, hcall2⟩ := chunk_known ⟨lit.toArray⟩ (y.extract (j + 1) y.size) (by rw [sz_mk]; omega) (by simp [ByteArray.size_extract]; omega)
                      have HD := Lib.hid (srch_cons lit true (bs y) j (by rw [bs_len]; exact hjl))
                      rw [bs_extract] at hu1 hu2
                      have HU1 := Lib.hid hu1
                      have HU2 := Lib.hid hu2
                      have HC2 := Lib.hid hcall2
                      have hu4 : t2.size ≤ 1000000 := by simp [ByteArray.size_extract] at hu3; omega
                      clear hu1 hu2 hcall2 hu3
                      have q2 : (0 : Int) ≤ (j : Int) + 1 := by omega
                      have q3 : ((j : Int) + 1).toNat = j + 1 := by omega
                      have q4 : (j : Int) + 1 ≤ (y.size : Int) := by omega
                      have q1 : IntKind.i64.wrap ((j : Int) + 1) = (j : Int) + 1 := IntWalk.i64_in _ (by omega)
                      cases ok2 with
                      | false =>
                        have HX := Lib.hid (HD.out.1 (HU2.out rfl))
                        go_wp2
                        go_quiet ((go_at_call 19; exact quiet_add (HC2.out _)))
                        go_wp2
                        refine ⟨⟨j + 1, _, by omega, rfl, by go_num, HX.out.symm.trans HSJ.out, rfl⟩, by simp [intOf]; omega⟩
                      | true =>
                        by_cases hz2 : t2.size = 0
                        · have HX := Lib.hid (HSJ.out.symm.trans (HD.out.2.1 (bs t2) (HU1.out rfl) (by right; exact bs_nil t2 hz2)))
                          have hz3 : ¬ (0 : Int) < (t2.size : Int) := by omega
                          go_wp2
                          go_quiet ((go_at_call 19; exact quiet_add (HC2.out _)))
                          go_wp2
                          refine ⟨⟨k + 1, t2, by omega, hu4, rfl, by go_num, ?_, HB1.out.trans (below_drewN (Below.refl _ _) _), HX1.out⟩, by simp [intOf]; omega⟩
                          rw [HSR.out, HX.out]
                        · have HX := Lib.hid (HD.out.2.2 (bs t2) (HU1.out rfl) rfl (fun h => hz2 (by rw [← bs_len, h]; rfl)))
                          have hz3 : (0 : Int) < (t2.size : Int) := by omega
                          go_wp2
                          go_quiet ((go_at_call 19; exact quiet_add (HC2.out _)))
                          go_wp2
                          refine ⟨⟨j + 1, _, by omega, rfl, by go_num, HX.out.symm.trans HSJ.out, rfl⟩, by simp [intOf]; omega⟩
                    · have HX := Lib.hid (HSJ.out.symm.trans (by rw [List.drop_eq_nil_of_le (by rw [bs_len]; omega)]; rfl : PM.srch lit true ((bs y).drop j) = none))
                      go_wp2
                      try rw [Exit.noGoto_ret]
                      go_ret
                      rw [HSR.out, HX.out]
                      exact ⟨rfl, HB1.out.trans (below_drewN (Below.refl _ _) _)⟩
              · have HN := Lib.hid (HST.out.symm.trans (step_ok HW.out (HT1.out rfl) (.inr (fun h => hke (by have := congrArg List.length h; simp at this; omega)))))
                clear hz hke
                cases wl with
                | false =>
                  clear hstar
                  go_wp2_with (go_at_call 19; refine (HCALL.out _).mono ?_; rintro e w' ⟨rfl, n, rfl⟩)
                  exact ⟨⟨k + 1, t, by omega, ht4, rfl, by go_num, HN.out.symm, (HR.out.bel.alloc SZ1 _).trans (below_drewN (Below.refl _ _) n), (box_alloc HR.out.box _).trans rfl⟩, by simp [intOf]; omega⟩
                | true =>
                  have hln : lit ≠ [] := fun h => hstar ⟨rfl, h⟩
                  have hf1 : lit.isEmpty = false := by simpa using hln
                  have hf2 : (lit == []) = false := by simpa using hln
                  have HLN := Lib.hid hln
                  clear hln hstar
                  go_wp2_with (go_at_call 19; refine (HCALL.out _).mono ?_; rintro e w' ⟨rfl, n, rfl⟩)
                  exact ⟨⟨k + 1, t, by omega, ht4, rfl, by go_num, HN.out.symm, (HR.out.bel.alloc SZ1 _).trans (below_drewN (Below.refl _ _) n), (box_alloc HR.out.box _).trans rfl⟩, by simp [intOf]; omega⟩
          | false =>
            have hmiss : Miss lit (bs y) (cs.drop (k + 1)) := .inl (HT2.out rfl)
            rcases hlast with ⟨hl, hke⟩ | ⟨hl, hke⟩
            · skip
              cases wl with
              | false =>
                clear hstar
                have HV := Lib.hid (HST.out.symm.trans (step_no hmiss))
                clear ht3 hmiss
                go_wp2_with (go_at_call 19; refine (HCALL.out _).mono ?_; rintro e w' ⟨rfl, n, rfl⟩)
                try rw [Exit.noGoto_ret]
                go_ret
                rw [HV.out]
                exact ⟨rfl, (HR.out.bel.alloc SZ1 _).trans (below_drewN (Below.refl _ _) n)⟩
              | true =>
                have hln : lit ≠ [] := fun h => hstar ⟨rfl, h⟩
                have hf1 : lit.isEmpty = false := by simpa using hln
                have hf2 : (lit == []) = false := by simpa using hln
                have HLN := Lib.hid hln
                clear hln hstar
                have hsr := HST.out.symm.trans (step_search HLN.out hmiss)
                rw [HLAST.out, show decide (k + 1 = cs.length) = true from by simp; omega] at hsr
                have HSR := Lib.hid hsr
                clear ht3 hmiss hsr
                go_wp2_with fail
                refine (HCALL.out _).mono ?_
                rintro e w1 ⟨rfl, hw1⟩
                have hcb : w1.cell? ⟨wr.heap.size, 0, none⟩ = some (.bool true) := by obtain ⟨n, rfl⟩ := hw1; exact cell_of_row _ _ _ _ _ _ (heap_alloc_new wr _)
                have hcl : w1.cell? ⟨wr.heap.size, 1, none⟩ = some (.string ⟨lit.toArray⟩) := by obtain ⟨n, rfl⟩ := hw1; exact cell_of_row _ _ _ _ _ _ (heap_alloc_new wr _)
                have hbel1 : Below w.heap.size w w1 := by obtain ⟨n, rfl⟩ := hw1; exact (HR.out.bel.alloc SZ1 _).trans (below_drewN (Below.refl _ _) n)
                have hbox1 : w1.heap[w.heap.size]? = some (.cells #[.slice (some ⟨g, 0, none⟩) cs.length c] 36 (0, 0)) := by obtain ⟨n, rfl⟩ := hw1; exact box_alloc HR.out.box _
                have HB1 := Lib.hid hbel1
                have HX1 := Lib.hid hbox1
                clear hw1 hbel1 hbox1 HCALL
                simp only []
                go_wp2_with fail
                go_loopw [1, 10] (fun x i wx => ∃ (j n : Nat), j ≤ y.size ∧ x = .string y ∧ i = .int .i64 j ∧ PM.srch lit true ((bs y).drop j) = PM.srch lit true (bs y) ∧ wx = w1.drewN n) (fun _ i _ => y.size - (intOf i).toNat)
                case atStart => exact ⟨0, 0, Nat.zero_le _, rfl, rfl, rfl, rfl⟩
                case round =>
                  obtain ⟨j, n2, hj, rfl, rfl, hsj, rfl⟩ := hrel
                  have HSJ := Lib.hid hsj
                  clear hsj
                  by_cases hjl : j < y.size
                  · obtain ⟨t2, ok2, hu1, hu2, hu3, hcall2⟩ := chunk_known ⟨lit.toArray⟩ (y.extract (j + 1) y.size) (by rw [sz_mk]; omega) (by simp [ByteArray.size_extract]; omega)
                    have HD := Lib.hid (srch_cons lit true (bs y) j (by rw [bs_len]; exact hjl))
                    rw [bs_extract] at hu1 hu2
                    have HU1 := Lib.hid hu1
                    have HU2 := Lib.hid hu2
                    have HC2 := Lib.hid hcall2
                    have hu4 : t2.size ≤ 1000000 := by simp [ByteArray.size_extract] at hu3; omega
                    clear hu1 hu2 hcall2 hu3
                    have q2 : (0 : Int) ≤ (j : Int) + 1 := by omega
                    have q3 : ((j : Int) + 1).toNat = j + 1 := by omega
                    have q4 : (j : Int) + 1 ≤ (y.size : Int) := by omega
                    have q1 : IntKind.i64.wrap ((j : Int) + 1) = (j : Int) + 1 := IntWalk.i64_in _ (by omega)
                    cases ok2 with
                    | false =>
                      have HX := Lib.hid (HD.out.1 (HU2.out rfl))
                      go_wp2
                      go_quiet ((go_at_call 19; exact quiet_add (HC2.out _)))
                      go_wp2
                      refine ⟨⟨j + 1, _, by omega, rfl, by go_num, HX.out.symm.trans HSJ.out, rfl⟩, by simp [intOf]; omega⟩
                    | true =>
                      by_cases hz2 : t2.size = 0
                      · have HX := Lib.hid (HSJ.out.symm.trans (HD.out.2.1 (bs t2) (HU1.out rfl) (by right; exact bs_nil t2 hz2)))
                        have hz3 : ¬ (0 : Int) < (t2.size : Int) := by omega
                        go_wp2
                        go_quiet ((go_at_call 19; exact quiet_add (HC2.out _)))
                        go_wp2
                        refine ⟨⟨k + 1, t2, by omega, hu4, rfl, by go_num, ?_, HB1.out.trans (below_drewN (Below.refl _ _) _), HX1.out⟩, by simp [intOf]; omega⟩
                        rw [HSR.out, HX.out]
                      · have HX := Lib.hid (HD.out.2.2 (bs t2) (HU1.out rfl) rfl (fun h => hz2 (by rw [← bs_len, h]; rfl)))
                        have hz3 : (0 : Int) < (t2.size : Int) := by omega
                        go_wp2
                        go_quiet ((go_at_call 19; exact quiet_add (HC2.out _)))
                        go_wp2
                        refine ⟨⟨j + 1, _, by omega, rfl, by go_num, HX.out.symm.trans HSJ.out, rfl⟩, by simp [intOf]; omega⟩
                  · have HX := Lib.hid (HSJ.out.symm.trans (by rw [List.drop_eq_nil_of_le (by rw [bs_len]; omega)]; rfl : PM.srch lit true ((bs y).drop j) = none))
                    go_wp2
                    try rw [Exit.noGoto_ret]
                    go_ret
                    rw [HSR.out, HX.out]
                    exact ⟨rfl, HB1.out.trans (below_drewN (Below.refl _ _) _)⟩
            · skip
              cases wl with
              | false =>
                clear hstar
                have HV := Lib.hid (HST.out.symm.trans (step_no hmiss))
                clear ht3 hmiss
                go_wp2_with (go_at_call 19; refine (HCALL.out _).mono ?_; rintro e w' ⟨rfl, n, rfl⟩)
                try rw [Exit.noGoto_ret]
                go_ret
                rw [HV.out]
                exact ⟨rfl, (HR.out.bel.alloc SZ1 _).trans (below_drewN (Below.refl _ _) n)⟩
              | true =>
                have hln : lit ≠ [] := fun h => hstar ⟨rfl, h⟩
                have hf1 : lit.isEmpty = false := by simpa using hln
                have hf2 : (lit == []) = false := by simpa using hln
                have HLN := Lib.hid hln
                clear hln hstar
                have hsr := HST.out.symm.trans (step_search HLN.out hmiss)
                rw [HLAST.out, show decide (k + 1 = cs.length) = false from by simp; omega] at hsr
                have HSR := Lib.hid hsr
                clear ht3 hmiss hsr
                go_wp2_with fail
                refine (HCALL.out _).mono ?_
                rintro e w1 ⟨rfl, hw1⟩
                have hcb : w1.cell? ⟨wr.heap.size, 0, none⟩ = some (.bool true) := by obtain ⟨n, rfl⟩ := hw1; exact cell_of_row _ _ _ _ _ _ (heap_alloc_new wr _)
                have hcl : w1.cell? ⟨wr.heap.size, 1, none⟩ = some (.string ⟨lit.toArray⟩) := by obtain ⟨n, rfl⟩ := hw1; exact cell_of_row _ _ _ _ _ _ (heap_alloc_new wr _)
                have hbel1 : Below w.heap.size w w1 := by obtain ⟨n, rfl⟩ := hw1; exact (HR.out.bel.alloc SZ1 _).trans (below_drewN (Below.refl _ _) n)
                have hbox1 : w1.heap[w.heap.size]? = some (.cells #[.slice (some ⟨g, 0, none⟩) cs.length c] 36 (0, 0)) := by obtain ⟨n, rfl⟩ := hw1; exact box_alloc HR.out.box _
                have HB1 := Lib.hid hbel1
                have HX1 := Lib.hid hbox1
                clear hw1 hbel1 hbox1 HCALL
                simp only []
                go_wp2_with fail
                go_loopw [1, 10] (fun x i wx => ∃ (j n : Nat), j ≤ y.size ∧ x = .string y ∧ i = .int .i64 j ∧ PM.srch lit false ((bs y).drop j) = PM.srch lit false (bs y) ∧ wx = w1.drewN n) (fun _ i _ => y.size - (intOf i).toNat)
                case atStart => exact ⟨0, 0, Nat.zero_le _, rfl, rfl, rfl, rfl⟩
                case round =>
                  obtain ⟨j, n2, hj, rfl, rfl, hsj, rfl⟩ := hrel
                  have HSJ := Lib.hid hsj
                  clear hsj
                  by_cases hjl : j < y.size
                  · obtain ⟨t2, ok2, hu1, hu2, hu3, hcall2⟩ := chunk_known ⟨lit.toArray⟩ (y.extract (j + 1) y.size) (by rw [sz_mk]; omega) (by simp [ByteArray.size_extract]; omega)
                    have HD := Lib.hid (srch_cons lit false (bs y) j (by rw [bs_len]; exact hjl))
                    rw [bs_extract] at hu1 hu2
                    have HU1 := Lib.hid hu1
                    have HU2 := Lib.hid hu2
                    have HC2 := Lib.hid hcall2
                    have hu4 : t2.size ≤ 1000000 := by simp [ByteArray.size_extract] at hu3; omega
                    clear hu1 hu2 hcall2 hu3
                    have q2 : (0 : Int) ≤ (j : Int) + 1 := by omega
                    have q3 : ((j : Int) + 1).toNat = j + 1 := by omega
                    have q4 : (j : Int) + 1 ≤ (y.size : Int) := by omega
                    have q1 : IntKind.i64.wrap ((j : Int) + 1) = (j : Int) + 1 := IntWalk.i64_in _ (by omega)
                    cases ok2 with
                    | false =>
                      have HX := Lib.hid (HD.out.1 (HU2.out rfl))
                      go_wp2
                      go_quiet ((go_at_call 19; exact quiet_add (HC2.out _)))
                      go_wp2
                      refine ⟨⟨j + 1, _, by omega, rfl, by go_num, HX.out.symm.trans HSJ.out, rfl⟩, by simp [intOf]; omega⟩
                    | true =>
                      have HX := Lib.hid (HSJ.out.symm.trans (HD.out.2.1 (bs t2) (HU1.out rfl) (by left; rfl)))
                      go_wp2
                      go_quiet ((go_at_call 19; exact quiet_add (HC2.out _)))
                      go_wp2
                      refine ⟨⟨k + 1, t2, by omega, hu4, rfl, by go_num, ?_, HB1.out.trans (below_drewN (Below.refl _ _) _), HX1.out⟩, by simp [intOf]; omega⟩
                      rw [HSR.out, HX.out]
                  · have HX := Lib.hid (HSJ.out.symm.trans (by rw [List.drop_eq_nil_of_le (by rw [bs_len]; omega)]; rfl : PM.srch lit false ((bs y).drop j) = none))
                    go_wp2
                    try rw [Exit.noGoto_ret]
                    go_ret
                    rw [HSR.out, HX.out]
                    exact ⟨rfl, HB1.out.trans (below_drewN (Below.refl _ _) _)⟩
      · have hdrop : cs.drop k = [] := List.drop_eq_nil_of_le (by omega)
        have hgo := hr.go
        rw [hdrop] at hgo
        have HGO := Lib.hid hgo
        have HB := Lib.hid hr.bel
        clear hr hgo hdrop
        go_wp2
        try rw [Exit.noGoto_ret]
        go_ret
        rw [← HGO.out]
        exact ⟨by rw [end_bool]; rfl, HB.out⟩
end Go.Proofs.Ythbdcekcockhfaa.Pat
