/-
  WALKS of the pattern functions, fifth part: impl.pattern (14).
-/
import Derived.Test.YthbdcekcockhfaaPatD
namespace Go.Proofs.Ythbdcekcockhfaa.Pat
open Go.RowKit

theorem itemsOf_take (l : List Bs) (k : Nat) (h : k < l.length) :
    PM.itemsOf (l.take (k + 1)) = PM.itemsOf (l.take k) ++ ((if 0 < k then [none] else []) ++ (if l.getD k [] = [] then [] else [some (l.getD k [])])) := by
  rw [List.take_add_one, getD_eq l k [] h]
  simp only [Option.toList_some]
  cases k with
  | zero => simp [PM.itemsOf]
  | succ k =>
    cases l with
    | nil => simp at h
    | cons p r =>
      simp only [List.take_succ_cons]
      rw [List.cons_append, PM.itemsOf_snoc]
      simp

/-- how the relation of pattern's loop reads -/
structure PatRel (w : World) (l : List ByteArray) (k : Nat) (its : List (Option Bs)) (v3 : Value) (wr : World) : Prop where
  items : its = PM.itemsOf ((l.map bs).take k)
  own : wr.ownsRow (w.heap.size + 1) 20 1 v3 its.length (its.map itemV)
  bel : Below w.heap.size w wr
  res : wr.heap[w.heap.size]? = some (.cells #[.slice none 0 0] 36 (0, 0))

theorem itemV_bs (s : ByteArray) : itemV (some (bs s)) = .iface 39 (.string s) := by
  cases s; simp [itemV, bs]

theorem one_cell {w : World} {y : Value} {t : TypeId} : ∀ (j : Nat) (u : Value), ([y] : List Value)[j]? = some u → (w.alloc (.cells #[y] t)).cell? ⟨w.heap.size, j, none⟩ = some u := by
  intro j u hu
  rw [cell_of_row _ _ _ _ _ _ (heap_alloc_new w (.cells #[y] t))]
  simpa using hu

section
variable {w wr w1 : World} {l : List ByteArray} {k : Nat} {its its1 : List (Option Bs)} {v3 v' : Value}
theorem PatRel.push (h : PatRel w l k its v3 wr) (o : Option Bs) (ho : w1.ownsRow (w.heap.size + 1) 20 1 v' (its.length + 1) (its.map itemV ++ [itemV o])) (hg : (wr.alloc (.cells #[itemV o] 20)).grownBy w1 v3.ownBlock) :
    w1.ownsRow (w.heap.size + 1) 20 1 v' (its ++ [o]).length ((its ++ [o]).map itemV) ∧ Below w.heap.size w w1 ∧ w1.heap[w.heap.size]? = some (.cells #[.slice none 0 0] 36 (0, 0)) := by
  have hlt := lt_of_block h.res
  have hol := h.own.lt
  refine ⟨by simpa using ho, (h.bel.alloc (by omega) _).grown hg (by simp; omega) (fun j hj => by have := (hol j hj).1; omega), ?_⟩
  rw [hg.block _ (by simp; omega) (fun e => by have := (hol _ e.symm).1; omega), Below.heap_alloc _ _ _ hlt]
  exact h.res
end

theorem sumLen_items (l : List Bs) : sumLen (PM.itemsOf l) = (l.map List.length).sum := by
  have e : ∀ r : List Bs, sumLen (r.flatMap (fun q => none :: (if q = [] then [] else [some q]))) = (r.map List.length).sum := by
    intro r
    induction r with
    | nil => rfl
    | cons q r ih =>
      simp only [sumLen, List.flatMap_cons, List.map_append, List.sum_append, List.map_cons, List.sum_cons] at ih ⊢
      rw [ih]
      by_cases hq : q = [] <;> simp [hq]
  cases l with
  | nil => rfl
  | cons p r =>
    have := e r
    simp only [sumLen, PM.itemsOf, List.map_append, List.sum_append, List.map_cons, List.sum_cons] at this ⊢
    rw [this]
    by_cases hp : p = [] <;> simp [hp]
theorem len_flat (f : Bs → List (Option Bs)) (hf : ∀ q, (f q).length ≤ 2) (r : List Bs) : (r.flatMap f).length ≤ 2 * r.length := by
  induction r with
  | nil => simp
  | cons q r ih => have := hf q; simp only [List.flatMap_cons, List.length_append, List.length_cons]; omega
theorem len_items (l : List Bs) : (PM.itemsOf l).length ≤ 2 * l.length := by
  cases l with
  | nil => simp [PM.itemsOf]
  | cons p r =>
    unfold PM.itemsOf
    rw [List.length_append]
    have h1 : ∀ d : Decidable (p = []), (@ite (List (Option Bs)) (p = []) d [] [some p]).length ≤ 1 := by intro d; split <;> simp
    refine Nat.le_trans (Nat.add_le_add (h1 _) (len_flat _ ?_ r)) (by simp; omega)
    intro q
    show (_ :: ite _ _ _).length ≤ 2
    split <;> simp
theorem sum_bound (l : List Nat) (m : Nat) (h : ∀ x ∈ l, x ≤ m) : l.sum ≤ l.length * m := by
  induction l with
  | nil => simp
  | cons x l ih => have := ih (fun y hy => h y (by simp [hy])); have := h x (by simp); simp [Nat.add_mul]; omega

theorem bsE (s : ByteArray) : s.toList = bs s := ByteArray.toList_eq s
theorem one_one {y : Value} (h : y.oneCell' = true) : ∀ u ∈ [y], u.oneCell' = true := by
  intro u hu; simp at hu; subst hu; exact h
theorem getD_map (l : List ByteArray) (k : Nat) (h : k < l.length) : (l.map bs).getD k [] = bs (l.getD k ByteArray.empty) := by
  simp [List.getD_eq_getElem?_getD, List.getElem?_eq_getElem h]

theorem items_of_own {w : World} {B : Nat} {v : Value} {its : List (Option Bs)} (h : w.ownsRow B 20 1 v its.length (its.map itemV)) : ItemsAt w v its := by
  have hc := h
  rcases h.2 with ⟨rfl, h0⟩ | ⟨g, cap, cur, rfl, hg, hh, _⟩
  · have := List.length_eq_zero_iff.1 h0
    subst this
    exact ⟨none, 0, rfl, .inl rfl⟩
  · refine ⟨some ⟨g, 0, none⟩, cap, rfl, .inr ⟨g, rfl, lt_of_block hh, fun i hi => ?_⟩⟩
    rw [hc.cellAt i (by omega)]
    simp [List.getD_eq_getElem?_getD, List.getElem?_eq_getElem hi]

set_option maxHeartbeats 1000000 in
theorem pat14 (v : Value) (l : List ByteArray) (w : World) (hv : StrsAt w v l) (hlen : l.length ≤ 1000) (hsz : ∀ i, i < l.length → (l.getD i ByteArray.empty).size ≤ 1000) :
    Calls Try.prog 14 #[v] w (PatEnd w.heap.size w ((PM.itemsOf (l.map bs)).foldl PM.stepC [])) := by
  obtain ⟨a, c, rfl, _, hl⟩ := hv
  rcases hl with rfl | ⟨b, o, rfl, hc⟩
  · show Calls Try.prog 14 #[.slice a 0 c] w _
    clear hlen hsz
    go_enter Try.func14, Try.ntmps14
    go_wp2
    refine wp_loop_rounds 1 ?_
    rw [rounds_succ]
    go_wp2_with fail
    refine (new18 _ [] _ ⟨none, 0, rfl, .inl rfl⟩ (by simp) (by simp [sumLen])).mono ?_
    rintro e w1 ⟨v1, rfl, hown1, hbel1⟩
    have hres1 : w1.heap[w.heap.size]? = some (.cells #[.slice none 0 0] 36 (0, 0)) := by rw [hbel1.block _ (by simp)]; exact heap_alloc_new _ _
    have hex : ∃ a n c, v1 = .slice a n c := by
      rcases hown1.2 with ⟨h, _⟩ | ⟨g, cap, cur, h, _⟩
      · exact ⟨_, _, _, h⟩
      · exact ⟨_, _, _, h⟩
    obtain ⟨a3, n3, c3, rfl⟩ := hex
    have hc1 := cell_of_one hres1
    have hf1 := free_of_one hres1
    have HO1 := Lib.hid hown1
    have HB1 := Lib.hid hbel1
    have HR1 := Lib.hid hres1
    clear hown1 hbel1 hres1
    simp only []
    go_wp2
    have hcf := cell_of_one (one_setCell (u := .slice a3 n3 c3) HR1.out)
    refine bodyPost_ret (v := .agg #[.slice a3 n3 c3]) (by simp [results, Try.results14, go_sem, hcf]) rfl ?_
    refine ⟨_, rfl, ?_, (((Below.refl _ _).alloc (Nat.le_refl _) _).trans (HB1.out.mono (by simp))).setCell (Nat.le_refl _) _⟩
    refine ownsRow_base (ownsRow_setCell_other HO1.out ?_ _) (by simp)
    intro e
    have := (HO1.out.lt _ e).1
    simp at this
    omega
  · have HC := Lib.hid hc
    have HS := Lib.hid hsz
    clear hc hsz
    go_enter Try.func14, Try.ntmps14
    go_wp2
    go_loopw [3, 8] (fun v3 i wr => ∃ k : Nat, ∃ its, k ≤ l.length ∧ i = .int .i64 k ∧ PatRel w l k its v3 wr) (fun _ i _ => l.length - (intOf i).toNat)
    case atStart => exact ⟨0, [], Nat.zero_le _, rfl, ⟨rfl, World.ownsRow_nil _ _ _ _, (Below.refl _ _).alloc (Nat.le_refl _) _, heap_alloc_new _ _⟩⟩
    case round =>
      obtain ⟨k, its, hk, rfl, hr⟩ := hrel
      have hlt0 := lt_of_block hr.res
      by_cases hlt : k < l.length
      · have hin : b < w.heap.size := by
          have := HC.out 0 (by omega)
          exact World.block_lt_of_cell? _ _ this
        have hcell := (hr.bel.cell (p := ⟨b, o + k, none⟩) hin).trans (HC.out k hlt)
        have HI := Lib.hid (itemsOf_take (l.map bs) k (by simpa using hlt))
        have HR := Lib.hid hr
        have hil : its.length ≤ 2000 := by
          rw [hr.items]
          have := len_items ((l.map bs).take k)
          simp at this
          omega
        clear hr
        generalize hx : l.getD k ByteArray.empty = x at hcell
        have HX := Lib.hid hx
        clear hx
        have HG1 := Lib.hid (getD_map l k hlt)
        have items1 : ∀ (o : List (Option Bs)) (hx : bs x = [] → o = []) (hx' : bs x ≠ [] → o = [some (bs x)]), PM.itemsOf ((l.map bs).take (k + 1)) = its ++ ((if 0 < k then [none] else []) ++ o) := by
          intro o hx hx'
          rw [HI.out, HG1.out, HX.out, HR.out.items]
          by_cases h : bs x = []
          · rw [if_pos h, hx h]
          · rw [if_neg h, hx' h]
        have HIT := Lib.hid items1
        clear items1
        by_cases hk0 : 0 < k
        · have hk0' : (0 : Int) < (k : Int) := by omega
          have HO := Lib.hid (HR.out.own.alloc (.cells #[.iface 43 (.agg #[])] 20))
          by_cases hx0 : x.toList = []
          · have hx1 : x.toList.isEmpty = true := by simpa using hx0
            have HXE := Lib.hid ((bsE x).symm.trans hx0)
            go_wp2_with (at_builtin; refine wpList_append_one _ rfl (.tmp 15) (.tmp 18) 41 rfl (w.heap.size + 1) 20 _ 1 16 Try.underlying41 info20 rfl (by decide) _ _ _ rfl HO.out wr.heap.size [.iface 43 (.agg #[])] rfl rfl one_cell ?c2 ?c3 ?c4 ?c5 ?_)
            case c2 => first | exact one_one rfl | rfl
            case c3 => unfold maxLen; omega
            case c4 => omega
            case c5 => first | omega | (simp; omega)
            intro v' w1 hown1 hg1
            have HG := Lib.hid hg1
            clear hg1
            go_wp2_with fail
            obtain ⟨p1, p2, p3⟩ := HR.out.push none hown1 HG.out
            refine ⟨⟨k + 1, its ++ [none], by omega, by go_num, ⟨?_, p1, p2, p3⟩⟩, by simp [intOf]; omega⟩
            rw [HIT.out [] (fun _ => rfl) (fun h => absurd HXE.out h), if_pos hk0]
            rfl
          · have hx1 : x.toList.isEmpty = false := by simpa using hx0
            have HXE := Lib.hid (fun h => hx0 ((bsE x).trans h) : bs x ≠ [])
            go_wp2_with (at_builtin; refine wpList_append_one _ rfl (.tmp 15) (.tmp 18) 41 rfl (w.heap.size + 1) 20 _ 1 16 Try.underlying41 info20 rfl (by decide) _ _ _ rfl HO.out wr.heap.size [.iface 43 (.agg #[])] rfl rfl one_cell ?c2 ?c3 ?c4 ?c5 ?_)
            case c2 => first | exact one_one rfl | rfl
            case c3 => unfold maxLen; omega
            case c4 => omega
            case c5 => first | omega | (simp; omega)
            intro v' w1 hown1 hg1
            have HG := Lib.hid hg1
            clear hg1
            obtain ⟨p1, p2, p3⟩ := HR.out.push none hown1 HG.out
            have hlt1 := lt_of_block p3
            have HO2 := Lib.hid (hown1.alloc (.cells #[.iface 39 (.string x)] 20))
            have P2 := Lib.hid p2
            have P3 := Lib.hid p3
            clear p1 p2 p3 hown1
            go_wp2_with (at_builtin; refine wpList_append_one _ rfl (.tmp 22) (.tmp 25) 41 rfl (w.heap.size + 1) 20 _ 1 16 Try.underlying41 info20 rfl (by decide) _ _ _ rfl HO2.out w1.heap.size [.iface 39 (.string x)] rfl rfl one_cell ?d2 ?d3 ?d4 ?d5 ?_)
            case d2 => first | exact one_one rfl | rfl
            case d3 => unfold maxLen; omega
            case d4 => omega
            case d5 => first | omega | (simp; omega)
            intro v2 w2 hown2 hg2
            have HG2 := Lib.hid hg2
            clear hg2
            go_wp2_with fail
            have hol := World.ownsRow.lt HO2.out
            have p4 : w2.heap[w.heap.size]? = some (.cells #[.slice none 0 0] 36 (0, 0)) := by
              rw [HG2.out.block _ (by simp; omega) (fun e => by have := (hol _ e.symm).1; omega), Below.heap_alloc _ _ _ hlt1]
              exact P3.out
            have own2 : w2.ownsRow (w.heap.size + 1) 20 1 v2 (its ++ [none, some (bs x)]).length ((its ++ [none, some (bs x)]).map itemV) := by
              rw [List.map_append, List.length_append]
              rw [← itemV_bs] at hown2
              exact hown2
            refine ⟨⟨k + 1, its ++ [none, some (bs x)], by omega, by go_num, ⟨?_, own2, (P2.out.alloc (by omega) _).grown HG2.out (by simp; omega) (fun j hj => by have := (hol j hj).1; omega), p4⟩⟩, by simp [intOf]; omega⟩
            rw [HIT.out [some (bs x)] (fun h => absurd h HXE.out) (fun _ => rfl), if_pos hk0]
            rfl
        · have hk0' : ¬ (0 : Int) < (k : Int) := by omega
          by_cases hx0 : x.toList = []
          · have hx1 : x.toList.isEmpty = true := by simpa using hx0
            have HXE := Lib.hid ((bsE x).symm.trans hx0)
            go_wp2_with fail
            refine ⟨⟨k + 1, its, by omega, by go_num, ⟨?_, HR.out.own, HR.out.bel, HR.out.res⟩⟩, by simp [intOf]; omega⟩
            rw [HIT.out [] (fun _ => rfl) (fun h => absurd HXE.out h), if_neg hk0]
            simp
          · have hx1 : x.toList.isEmpty = false := by simpa using hx0
            have HXE := Lib.hid (fun h => hx0 ((bsE x).trans h) : bs x ≠ [])
            have HO := Lib.hid (HR.out.own.alloc (.cells #[.iface 39 (.string x)] 20))
            go_wp2_with (at_builtin; refine wpList_append_one _ rfl (.tmp 22) (.tmp 25) 41 rfl (w.heap.size + 1) 20 _ 1 16 Try.underlying41 info20 rfl (by decide) _ _ _ rfl HO.out wr.heap.size [.iface 39 (.string x)] rfl rfl one_cell ?c2 ?c3 ?c4 ?c5 ?_)
            case c2 => first | exact one_one rfl | rfl
            case c3 => unfold maxLen; omega
            case c4 => omega
            case c5 => first | omega | (simp; omega)
            intro v' w1 hown1 hg1
            have HG := Lib.hid hg1
            clear hg1
            go_wp2_with fail
            obtain ⟨p1, p2, p3⟩ := HR.out.push (some (bs x)) (by rw [itemV_bs]; exact hown1) (by rw [itemV_bs]; exact HG.out)
            refine ⟨⟨k + 1, its ++ [some (bs x)], by omega, by go_num, ⟨?_, p1, p2, p3⟩⟩, by simp [intOf]; omega⟩
            rw [HIT.out [some (bs x)] (fun h => absurd h HXE.out) (fun _ => rfl), if_neg hk0]
            rfl
      · have HR := Lib.hid hr
        have hits : PM.itemsOf (l.map bs) = its := by rw [hr.items, List.take_of_length_le (by simp; omega)]
        have hil := len_items (l.map bs)
        rw [hits] at hil
        have hsum := sumLen_items (l.map bs)
        rw [hits] at hsum
        have hsum2 := sum_bound ((l.map bs).map List.length) 1000 (by
          intro n hn
          simp only [List.map_map, List.mem_map] at hn
          obtain ⟨s, hs, rfl⟩ := hn
          obtain ⟨i, hi, rfl⟩ := List.getElem_of_mem hs
          have := HS.out i hi
          simp [List.getD_eq_getElem?_getD, List.getElem?_eq_getElem hi] at this
          show (bs l[i]).length ≤ 1000
          rw [bs_len]; exact this)
        have hs3 : sumLen its ≤ 1000000 := by rw [hsum]; simp at hsum2 ⊢; omega
        have hl3 : its.length ≤ 1000000 := by simp at hil; omega
        have hia : ItemsAt wr u3 its := items_of_own hr.own
        have hex : ∃ a n c, u3 = .slice a n c := by
          rcases hr.own.2 with ⟨h, _⟩ | ⟨g, cap, cur, h, _⟩
          · exact ⟨_, _, _, h⟩
          · exact ⟨_, _, _, h⟩
        have HIA := Lib.hid hia
        have HITS := Lib.hid hits
        clear hr hsum hsum2 hil hits hia
        go_wp2_with fail
        refine (new18 _ its _ HIA.out hl3 hs3).mono ?_
        rintro e w1 ⟨v1, rfl, hown1, hbel1⟩
        have hres1 : w1.heap[w.heap.size]? = some (.cells #[.slice none 0 0] 36 (0, 0)) := by rw [hbel1.block _ hlt0]; exact HR.out.res
        have hex : ∃ a n c, v1 = .slice a n c := by
          rcases hown1.2 with ⟨h, _⟩ | ⟨g, cap, cur, h, _⟩
          · exact ⟨_, _, _, h⟩
          · exact ⟨_, _, _, h⟩
        obtain ⟨a3, n3, c3, rfl⟩ := hex
        have hc1 := cell_of_one hres1
        have hf1 := free_of_one hres1
        have HO1 := Lib.hid hown1
        have HB1 := Lib.hid hbel1
        have HR1 := Lib.hid hres1
        clear hown1 hbel1 hres1
        simp only []
        go_wp2
        have hcf := cell_of_one (one_setCell (u := .slice a3 n3 c3) HR1.out)
        refine bodyPost_ret (v := .agg #[.slice a3 n3 c3]) (by simp [results, Try.results14, go_sem, hcf]) rfl ?_
        refine ⟨_, rfl, ?_, (HR.out.bel.trans (HB1.out.mono (by omega))).setCell (Nat.le_refl _) _⟩
        rw [HITS.out]
        refine ownsRow_base (ownsRow_setCell_other HO1.out ?_ _) (by omega)
        intro e
        have := (HO1.out.lt _ e).1
        simp at this
        omega
end Go.Proofs.Ythbdcekcockhfaa.Pat
