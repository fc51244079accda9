/-
  WALKS of the pattern functions, ninth part: the law FnMatchJoined (4).
-/
import Derived.Test.YthbdcekcockhfaaPatH
import Derived.Deep.RegionHeld3
import Derived.Deep.AppendLies
import Derived.Deep.RegionLaw
namespace Go.Proofs.Ythbdcekcockhfaa.Pat
open Go.RowKit

theorem info9 : (Try.prog.info? 9).map (fun i => (i.zero, i.size, i.bytes)) = some (some (.string ⟨#[]⟩), 1, 16) := by kernel_rfl

/-- an append onto an own row, at a step of a region that draws -/
theorem step_append_own {P : Program} {w : World} {ops : Array Oper} {o : Oper} {a : Act} {K : Act → World → Prop} {Q : Exit → Act → World → Prop} {E : Prop} (hgd : o.guard = none) (s x : Operand) (t : TypeId)
    (ho : o.op = .call { callee := .builtin .append, args := #[s, x], argTypes := #[t, t] })
    (base : Nat) (e : TypeId) (z : Value) (size bytes : Nat) (ht : P.underlying t = some (.slice e)) (hinfo : (P.info? e).map (fun i => (i.zero, i.size, i.bytes)) = some (some z, size, bytes)) (hzs : z.cells.size = size) (hsz : 0 < size)
    (v : Value) (n : Nat) (xs : List Value) (hs : a.eval s = v) (hown : w.ownsRow base e size v n xs)
    (ad : Addr) (m c : Nat) (news : List Value) (hx : a.eval x = .slice (some ad) m c) (hl : news.length = m * size) (hnews : ∀ j u, news[j]? = some u → w.cell? (ad.add j) = some u) (h1 : ∀ u ∈ news, u.oneCell' = true)
    (h63 : n + m ≤ maxLen) (hbytes : (n + m) * bytes ≤ 140737488355328) (hbase : base ≤ w.heap.size)
    (h : ∀ v' w', w'.ownsRow base e size v' (n + m) (xs ++ news) → w.grownBy w' v.ownBlock → K (a.put o.dst v') w') :
    if Region.wanted o (yielded ops a.tmps) = true then Oper.wp P o a w K Q else E := by
  obtain ⟨i, hi, hz, hsize, hby⟩ := info_parts hinfo
  rw [if_pos (by simp [Region.wanted, hgd])]
  exact wp_append_own w s x t ho base e i z size bytes ht hi hz hsize hby hzs hsz v n xs hs hown ad m c news hx hl hnews h1 h63 hbytes hbase (fun v' w' h2 h3 _ => h v' w' h2 h3)

theorem strs_news {w : World} {b o : Nat} {p : List ByteArray} (k m : Nat) (hm : k + m ≤ p.length) (hc : ∀ i, i < p.length → w.cell? ⟨b, o + i, none⟩ = some (.string (p.getD i ByteArray.empty))) :
    ∀ (j : Nat) (u : Value), (((p.drop k).take m).map Value.string)[j]? = some u → w.cell? ((⟨b, o + k, none⟩ : Addr).add j) = some u := by
  intro j u hu
  have hj : j < m := by
    have := (List.getElem?_eq_some_iff.1 hu).1
    simp at this; omega
  rw [Addr.add_lit]
  rw [show o + k + j = o + (k + j) from by omega, hc (k + j) (by omega), ← hu]
  simp [List.getElem?_take, hj, List.getD_eq_getElem?_getD, List.getElem?_eq_getElem (show k + j < p.length from by omega)]
theorem strs_one (l : List ByteArray) : ∀ u ∈ l.map Value.string, u.oneCell' = true := by
  intro u hu
  obtain ⟨s, _, rfl⟩ := List.mem_map.1 hu
  rfl

theorem strs_of_own {w : World} {B : Nat} {v : Value} {l : List ByteArray} (hlen : l.length ≤ 1000) (h : w.ownsRow B 9 1 v l.length (l.map Value.string)) : StrsAt w v l := by
  have hc := h
  rcases h.2 with ⟨rfl, h0⟩ | ⟨g, cap, cur, rfl, hg, hh, _⟩
  · have := List.length_eq_zero_iff.1 h0
    subst this
    exact ⟨none, 0, rfl, by simp, .inl rfl⟩
  · refine ⟨some ⟨g, 0, none⟩, cap, rfl, by omega, .inr ⟨g, 0, rfl, fun i hi => ?_⟩⟩
    rw [Nat.zero_add, hc.cellAt i (by omega)]
    simp [List.getD_eq_getElem?_getD, List.getElem?_eq_getElem hi]
theorem strs_pair (w : World) (s t : ByteArray) : StrsAt (w.alloc (.cells #[.string s, .string t] 9)) (.slice (some ⟨w.heap.size, 0, none⟩) 2 2) [s, t] := by
  refine ⟨some ⟨w.heap.size, 0, none⟩, 2, rfl, by simp, .inr ⟨w.heap.size, 0, rfl, fun i hi => ?_⟩⟩
  rw [cell_of_row _ _ _ _ _ _ (heap_alloc_new w (.cells #[.string s, .string t] 9))]
  match i, hi with
  | 0, _ => rfl
  | 1, _ => rfl

/-- the joined pattern -/
def joinL (p q : List ByteArray) : List ByteArray := (p.take (p.length - 1)) ++ [p.getD (p.length - 1) ByteArray.empty ++ q.getD 0 ByteArray.empty] ++ ((q.drop 1).take (q.length - 1))
theorem joinL_length (p q : List ByteArray) (h1 : 1 ≤ p.length) (h2 : 1 ≤ q.length) : (joinL p q).length = p.length - 1 + 1 + (q.length - 1) := by
  unfold joinL; simp; omega
theorem bs_append (s t : ByteArray) : bs (s ++ t) = bs s ++ bs t := by
  cases s with | mk a => cases t with | mk b => cases a; cases b; simp [bs, ByteArray.data_append]
theorem joinL_small (p q : List ByteArray) (n1 : ∀ i, i < p.length → (p.getD i ByteArray.empty).size ≤ 20) (n2 : ∀ i, i < q.length → (q.getD i ByteArray.empty).size ≤ 20) (h1 : 1 ≤ p.length) (h2 : 1 ≤ q.length) :
    ∀ i, i < (joinL p q).length → ((joinL p q).getD i ByteArray.empty).size ≤ 1000 := by
  have hm : ∀ x ∈ joinL p q, x.size ≤ 40 := by
    have hp : ∀ x ∈ p, x.size ≤ 20 := by
      intro x hx
      obtain ⟨i, hi, rfl⟩ := List.getElem_of_mem hx
      have := n1 i hi
      simpa [List.getD_eq_getElem?_getD, List.getElem?_eq_getElem hi] using this
    have hq : ∀ x ∈ q, x.size ≤ 20 := by
      intro x hx
      obtain ⟨i, hi, rfl⟩ := List.getElem_of_mem hx
      have := n2 i hi
      simpa [List.getD_eq_getElem?_getD, List.getElem?_eq_getElem hi] using this
    intro x hx
    unfold joinL at hx
    rcases List.mem_append.1 hx with hx | hx
    · rcases List.mem_append.1 hx with hx | hx
      · have := hp x (List.mem_of_mem_take hx); omega
      · simp at hx
        subst hx
        have e1 := n1 (p.length - 1) (by omega)
        have e2 := n2 0 (by omega)
        rw [← List.getD_eq_getElem?_getD, ← List.getD_eq_getElem?_getD] at *
        rw [ByteArray.size_append]
        omega
    · have := hq x (List.mem_of_mem_drop (List.mem_of_mem_take hx)); omega
  intro i hi
  have : (joinL p q).getD i ByteArray.empty ∈ joinL p q := by
    rw [List.getD_eq_getElem?_getD, List.getElem?_eq_getElem hi]
    simp
  have := hm _ this
  omega

open Classical in
theorem join_full (p q : List ByteArray) (s t : ByteArray) (h1 : 1 ≤ p.length) (h2 : 1 ≤ q.length) (f1 : fullB (p.map bs) (bs s) = true) (f2 : fullB (q.map bs) (bs t) = true) : fullB ((joinL p q).map bs) (bs (s ++ t)) = true := by
  have g1 : PM.full (p.map bs) (bs s) := by unfold fullB at f1; simpa using f1
  have g2 : PM.full (q.map bs) (bs t) := by unfold fullB at f2; simpa using f2
  cases q with
  | nil => simp at h2
  | cons y q =>
    have hne : p.map bs ≠ [] := fun h => by have := congrArg List.length h; simp at this; subst this; simp at h1
    have hj := PM.full_join (t := bs t) g2 (p.map bs) (bs s) hne g1
    unfold fullB
    rw [decide_eq_true_iff, bs_append]
    have e : (joinL p (y :: q)).map bs = (p.map bs).dropLast ++ ((p.map bs).getLast hne ++ bs y) :: q.map bs := by
      unfold joinL
      simp only [List.map_append, List.map_cons, List.map_nil, List.drop_succ_cons, List.drop_zero, List.length_cons, Nat.add_sub_cancel, List.take_length]
      rw [List.append_assoc, List.singleton_append]
      congr 1
      · rw [List.dropLast_eq_take, List.length_map, List.map_take]
      · congr 1
        rw [bs_append]
        congr 1
        rw [List.getLast_eq_getElem]
        simp [List.getD_eq_getElem?_getD, List.getElem?_eq_getElem (show p.length - 1 < p.length from by omega)]
    rw [e]
    exact hj
open Classical in
theorem two_full (s t : ByteArray) : fullB ([s, t].map bs) (bs (s ++ t)) = true := by
  unfold fullB
  rw [decide_eq_true_iff, bs_append]
  exact PM.full_two _ _

set_option maxRecDepth 100000 in
set_option maxHeartbeats 1000000 in
theorem law4 (v1 v2 : Value) (p q : List ByteArray) (s t : ByteArray) (w : World) (hv1 : StrsAt w v1 p) (hv2 : StrsAt w v2 q) (hs0 : s.size ≤ 9223372036854775807) (ht0 : t.size ≤ 9223372036854775807) (hc1 : ∀ a c, v1 = .slice a p.length c → p.length ≤ c ∧ c ≤ 9223372036854775807) (hc2 : ∀ a c, v2 = .slice a q.length c → q.length ≤ c ∧ c ≤ 9223372036854775807) :
    Calls Try.prog 4 #[v1, v2, .string s, .string t] w fun e w' => e = .returned (.bool true) ∧ Below w.heap.size w w' := by
  have HV1 := Lib.hid hv1
  have HV2 := Lib.hid hv2
  obtain ⟨a1, c1, rfl, _, hp⟩ := hv1
  obtain ⟨a2, c2, rfl, _, hq⟩ := hv2
  obtain ⟨k1, k2⟩ := hc1 _ _ rfl
  obtain ⟨k3, k4⟩ := hc2 _ _ rfl
  clear hc1 hc2
  have C1 := fits8 _ p w HV1.out
  have C2 := fits8 _ q w HV2.out
  have D1 := small9 _ p w HV1.out
  have D2 := small9 _ q w HV2.out
  by_cases hok : fitsB p = true ∧ fitsB q = true ∧ smallB p = true ∧ smallB q = true ∧ s.size ≤ 60 ∧ t.size ≤ 60
  · obtain ⟨h1, h2, h3, h4, h5, h6⟩ := hok
    rw [h1] at C1; rw [h2] at C2; rw [h3] at D1; rw [h4] at D2
    obtain ⟨l1, m1, n1⟩ := smallB_get h3
    obtain ⟨l2, m2, n2⟩ := smallB_get h4
    have e1 : ¬ (2147483647 : Int) < (s.size : Int) := by omega
    have e2 : ¬ (2147483647 : Int) < (t.size : Int) := by omega
    have e3 : ¬ (60 : Int) < (s.size : Int) := by omega
    have e4 : ¬ (60 : Int) < (t.size : Int) := by omega
    have N1 := Lib.hid n1
    have N2 := Lib.hid n2
    rcases hp with rfl | ⟨b1, o1, rfl, hc1⟩
    · simp at l1
    rcases hq with rfl | ⟨b2, o2, rfl, hc2⟩
    · simp at l2
    have HC1 := Lib.hid hc1
    have HC2 := Lib.hid hc2
    clear h1 h2 h3 h4 n1 n2 hc1 hc2
    go_enter Try.func4, Try.ntmps4
    go_wp2_with fail
    refine C1.mono ?_
    rintro e w' ⟨rfl, rfl⟩
    go_wp2_with fail
    refine C2.mono ?_
    rintro e w' ⟨rfl, rfl⟩
    go_wp2_with fail
    refine D1.mono ?_
    rintro e w' ⟨rfl, rfl⟩
    go_wp2_with fail
    refine D2.mono ?_
    rintro e w' ⟨rfl, rfl⟩
    clear C1 C2 D1 D2
    have hO := World.ownsRow_lit (base := w'.heap.size) (e := 9) (size := 1) w' #[] 0 (Nat.le_refl _) (by decide) rfl
    have HO := Lib.hid hO
    have HN := Lib.hid (strs_news (w := w'.alloc (.cells #[] 9)) (b := b1) (o := o1) (p := p) 0 (p.length - 1) (by omega) (fun i hi => by rw [World.cell?_of_block (w := w') (Below.heap_alloc _ _ _ (World.block_lt_of_cell? _ _ (HC1.out i hi)))]; exact HC1.out i hi))
    clear hO
    obtain ⟨i9, hi, hz0, hz1, hz2⟩ := info_parts info9
    have HI := Lib.hid (And.intro hi (And.intro hz0 (And.intro hz1 hz2)))
    clear hi hz0 hz1 hz2
    go_wp2_with (at_builtin; refine wpList_append_own _ rfl (.tmp 46) (.tmp 51) 26 rfl w'.heap.size 9 i9 (.string ⟨#[]⟩) 1 16 Try.underlying26 HI.out.1 HI.out.2.1 HI.out.2.2.1 HI.out.2.2.2 rfl (by decide) _ _ _ rfl HO.out ⟨b1, o1, none⟩ (p.length - 1) c1 (((p.drop 0).take (p.length - 1)).map Value.string) rfl ?g1 HN.out (strs_one _) ?g2 ?g3 ?g4 ?_)
    case g1 => simp
    case g2 => unfold maxLen; omega
    case g3 => omega
    case g4 => simp
    intro vj w1 hown1 hg1 _
    have hbel1 : Below w'.heap.size w' w1 := ((Below.refl _ _).alloc (Nat.le_refl _) (.cells #[] 9)).grown hg1 (by simp) (fun k hk => by simp [Value.ownBlock] at hk; omega)
    have hpb := World.block_lt_of_cell? _ _ (HC1.out 0 (by omega))
    have hqb := World.block_lt_of_cell? _ _ (HC2.out 0 (by omega))
    have hpl : w1.cell? ⟨b1, o1 + (p.length - 1), none⟩ = some (.string (p.getD (p.length - 1) ByteArray.empty)) := (hbel1.cell (p := ⟨b1, o1 + (p.length - 1), none⟩) hpb).trans (HC1.out (p.length - 1) (by omega))
    have hq0 : w1.cell? ⟨b2, o2, none⟩ = some (.string (q.getD 0 ByteArray.empty)) := (hbel1.cell (p := ⟨b2, o2, none⟩) hqb).trans (by simpa using HC2.out 0 (by omega))
    have hpz := N1.out (p.length - 1) (by omega)
    have hqz := N2.out 0 (by omega)
    have HCQ := Lib.hid (fun i (hi : i < q.length) => (hbel1.cell (p := ⟨b2, o2 + i, none⟩) hqb).trans (HC2.out i hi))
    generalize hpx : p.getD (p.length - 1) ByteArray.empty = px at hpl hpz
    generalize hqx : q.getD 0 ByteArray.empty = qx at hq0 hqz
    have HPX := Lib.hid hpx
    have HQX := Lib.hid hqx
    have HB1 := Lib.hid hbel1
    have hszl := hbel1.size
    have HO1 := Lib.hid hown1
    clear hbel1 hpx hqx hg1 hown1
    go_wp2_with fail
    by_cases hc2 : c2 = 1
    · have hsum : px.size + qx.size ≤ 40 := by omega
      subst hc2
      have hql : q.length = 1 := by omega
      have HQL := Lib.hid hql
      clear hql
      have hp0 : (0 : Int) ≤ (p.length : Int) - 1 := by omega
      have hp1 : (p.length : Int) - 1 < (p.length : Int) := by omega
      have hq1 : (0 : Int) < (q.length : Int) := by omega
      have hq2 : (1 : Int) ≤ (q.length : Int) := by omega
      have hp2 : IntKind.i64.wrap ((p.length : Int) - 1) = (p.length : Int) - 1 := IntWalk.i64_in _ (by omega)
      have hp4 : (1 : Int) ≤ (p.length : Int) := by omega
      have hp5 : 0 < q.length := by omega
      have hp6 : ¬ 9223372036854775807 < px.size + qx.size := by omega
      have hp7 : px.size + qx.size ≤ 9223372036854775807 := by omega
      have hp3 : ((p.length : Int) - 1).toNat = p.length - 1 := by omega
      have OWNA := Lib.hid ((HO1.out.alloc (.cells #[.string (px ++ qx)] 9)).drew)
      have NEWA : Hid (∀ (j : Nat) (u : Value), ([Value.string (px ++ qx)] : List Value)[j]? = some u → ((w1.alloc (.cells #[.string (px ++ qx)] 9)).drew).cell? ((⟨w1.heap.size, 0, none⟩ : Addr).add j) = some u) := by
        intro j u hu
        rw [Addr.add_lit]
        have := one_cell (w := w1) (t := 9) j u hu
        simpa using this
      have LA : Hid (p.length - 1 + 1 ≤ maxLen) := by show _ ≤ _; unfold maxLen; omega
      have LB : Hid ((p.length - 1 + 1) * 16 ≤ 140737488355328) := by show _ ≤ _; omega
      have LC : Hid (w'.heap.size ≤ ((w1.alloc (.cells #[.string (px ++ qx)] 9)).drew).heap.size) := by show _ ≤ _; simp; omega
      have LD : Hid (p.length - 1 + 1 + (q.length - 1) ≤ maxLen) := by show _ ≤ _; unfold maxLen; omega
      have LE : Hid ((p.length - 1 + 1 + (q.length - 1)) * 16 ≤ 140737488355328) := by show _ ≤ _; omega
      have LF : Hid ((((q.drop 1).take (q.length - 1)).map Value.string).length = (q.length - 1) * 1) := by show _ = _; simp
      have HBA : Hid (∀ (w2 : World), ((w1.alloc (.cells #[.string (px ++ qx)] 9)).drew).grownBy w2 vj.ownBlock → Below w'.heap.size w' w2) := by
        intro w2 hg
        have hlt := HO1.out.lt
        exact ((HB1.out.alloc (by omega) (.cells #[.string (px ++ qx)] 9)).drew).grown hg (by simp; omega) (fun k hk => (hlt k hk).1)
      have HNB : Hid (∀ (w2 : World), Below w'.heap.size w' w2 → ∀ (j : Nat) (u : Value), (((q.drop 1).take (q.length - 1)).map Value.string)[j]? = some u → w2.cell? ((⟨b2, o2, none⟩ : Addr).add j) = some u) := by
        intro w2 _ j u hu
        rw [HQL.out] at hu
        simp at hu
      go_region_law (first
        | (refine step_append_own rfl (.tmp 53) (.tmp 64) 26 rfl w'.heap.size 9 _ 1 16 Try.underlying26 info9 rfl (by decide) _ _ _ rfl OWNA.out ⟨w1.heap.size, 0, none⟩ 1 1 [.string (px ++ qx)] rfl rfl NEWA.out (one_one rfl) LA.out LB.out LC.out ?_; intro v2 w2 hown2 hg2; have HO2 := Lib.hid hown2; have HB2 := Lib.hid (HBA.out w2 hg2); clear hown2 hg2)
        | (refine step_append_own rfl (.tmp 65) (.tmp 67) 26 rfl w'.heap.size 9 _ 1 16 Try.underlying26 info9 rfl (by decide) _ _ _ rfl HO2.out ⟨b2, o2, none⟩ 0 0 [] rfl rfl (fun j u hu => by simp at hu) (fun u hu => by simp at hu) LA.out LB.out HB2.out.size ?_; intro v3 w3 hown3 hg3; have HO3 := Lib.hid hown3; have HB3 := Lib.hid (HB2.out.grown hg3 HB2.out.size (fun k hk => (HO2.out.lt k hk).1)); clear hown3 hg3))
      all_goals
        have hown3 : w3.ownsRow w'.heap.size 9 1 v3 (joinL p q).length ((joinL p q).map Value.string) := by
          rw [joinL_length p q l1 l2]
          have := HO3.out
          unfold joinL
          rw [HPX.out, HQX.out, HQL.out]
          simpa using this
        have SJ := Lib.hid (strs_of_own (by rw [joinL_length p q l1 l2]; omega) hown3)
        have F1 := two_full s t
        have M1 := fun (wx : World) => match10 _ [s, t] (s ++ t) _ (strs_pair wx s t) (by simp) (by rw [ByteArray.size_append]; omega) (by intro i hi; match i, hi with | 0, _ => simp [List.getD]; omega | 1, _ => simp [List.getD]; omega)
        rw [F1] at M1
        have M2 := fun (wx : World) (hb : Below w'.heap.size w' wx) => match10 _ p s wx (HV1.out.below hb) (by omega) (by omega) (fun i hi => by have := N1.out i hi; omega)
        have M3 := fun (wx : World) (hb : Below w'.heap.size w' wx) => match10 _ q t wx (HV2.out.below hb) (by omega) (by omega) (fun i hi => by have := N2.out i hi; omega)
        have M4 := fun (wx : World) (hb : Below w3.heap.size w3 wx) => match10 _ (joinL p q) (s ++ t) wx (SJ.out.below hb) (by rw [joinL_length p q l1 l2]; omega) (by rw [ByteArray.size_append]; omega) (joinL_small p q N1.out N2.out l1 l2)
        have J := Lib.hid (join_full p q s t l1 l2)
        have HM1 := Lib.hid M1
        have HM2 := Lib.hid M2
        have HM3 := Lib.hid M3
        have HM4 := Lib.hid M4
        have g1 : s.size + t.size ≤ 9223372036854775807 := by omega
        have g2 : ¬ 9223372036854775807 < s.size + t.size := by omega
        clear M1 M2 M3 M4 F1 hown3
        go_wp2_with fail
        refine (HM1.out _).mono ?_
        rintro e w4 ⟨rfl, hb4⟩
        have hb43 : Below w3.heap.size w3 w4 := ((Below.refl _ _).alloc (Nat.le_refl _) (.cells #[.string s, .string t] 9)).trans (hb4.mono (by simp))
        have H43 := Lib.hid hb43
        have H4' := Lib.hid (HB3.out.trans (hb43.mono HB3.out.size))
        clear hb4 hb43
        simp only []
        go_wp2_with fail
        cases hr2 : fullB (p.map bs) (bs s) with
        | false =>
          rw [hr2] at HM2
          refine (HM2.out _ H4'.out).mono ?_
          rintro e w5 ⟨rfl, hb5⟩
          have H5 := Lib.hid (H4'.out.trans (hb5.mono H4'.out.size))
          clear hb5
          simp only []
          go_wp2_with fail
          go_ret
          exact ⟨rfl, H5.out⟩
        | true =>
          rw [hr2] at HM2
          refine (HM2.out _ H4'.out).mono ?_
          rintro e w5 ⟨rfl, hb5⟩
          have H5 := Lib.hid (H4'.out.trans (hb5.mono H4'.out.size))
          have H53 := Lib.hid (H43.out.trans (hb5.mono H43.out.size))
          clear hb5
          simp only []
          go_wp2_with fail
          cases hr3 : fullB (q.map bs) (bs t) with
          | false =>
            rw [hr3] at HM3
            refine (HM3.out _ H5.out).mono ?_
            rintro e w6 ⟨rfl, hb6⟩
            have H6 := Lib.hid (H5.out.trans (hb6.mono H5.out.size))
            clear hb6
            simp only []
            go_wp2_with fail
            go_ret
            exact ⟨rfl, H6.out⟩
          | true =>
            rw [hr3] at HM3
            rw [J.out hr2 hr3] at HM4
            refine (HM3.out _ H5.out).mono ?_
            rintro e w6 ⟨rfl, hb6⟩
            have H6 := Lib.hid (H5.out.trans (hb6.mono H5.out.size))
            have H63 := Lib.hid (H53.out.trans (hb6.mono H53.out.size))
            clear hb6
            simp only []
            go_wp2_with fail
            refine (HM4.out _ H63.out).mono ?_
            rintro e w7 ⟨rfl, hb7⟩
            have H7 := Lib.hid (H6.out.trans (hb7.mono H6.out.size))
            clear hb7
            simp only []
            go_wp2_with fail
            go_ret
            exact ⟨rfl, H7.out⟩
    · have hsum : px.size + qx.size ≤ 40 := by omega
      have hc3 : ¬ c2 = 1 := hc2
      have hp0 : (0 : Int) ≤ (p.length : Int) - 1 := by omega
      have hp1 : (p.length : Int) - 1 < (p.length : Int) := by omega
      have hq1 : (0 : Int) < (q.length : Int) := by omega
      have hq2 : (1 : Int) ≤ (q.length : Int) := by omega
      have hp2 : IntKind.i64.wrap ((p.length : Int) - 1) = (p.length : Int) - 1 := IntWalk.i64_in _ (by omega)
      have hp4 : (1 : Int) ≤ (p.length : Int) := by omega
      have hp5 : 0 < q.length := by omega
      have hp6 : ¬ 9223372036854775807 < px.size + qx.size := by omega
      have hp7 : px.size + qx.size ≤ 9223372036854775807 := by omega
      have hp3 : ((p.length : Int) - 1).toNat = p.length - 1 := by omega
      have OWNA := Lib.hid ((HO1.out.alloc (.cells #[.string (px ++ qx)] 9)).drew)
      have NEWA : Hid (∀ (j : Nat) (u : Value), ([Value.string (px ++ qx)] : List Value)[j]? = some u → ((w1.alloc (.cells #[.string (px ++ qx)] 9)).drew).cell? ((⟨w1.heap.size, 0, none⟩ : Addr).add j) = some u) := by
        intro j u hu
        rw [Addr.add_lit]
        have := one_cell (w := w1) (t := 9) j u hu
        simpa using this
      have LA : Hid (p.length - 1 + 1 ≤ maxLen) := by show _ ≤ _; unfold maxLen; omega
      have LB : Hid ((p.length - 1 + 1) * 16 ≤ 140737488355328) := by show _ ≤ _; omega
      have LC : Hid (w'.heap.size ≤ ((w1.alloc (.cells #[.string (px ++ qx)] 9)).drew).heap.size) := by show _ ≤ _; simp; omega
      have LD : Hid (p.length - 1 + 1 + (q.length - 1) ≤ maxLen) := by show _ ≤ _; unfold maxLen; omega
      have LE : Hid ((p.length - 1 + 1 + (q.length - 1)) * 16 ≤ 140737488355328) := by show _ ≤ _; omega
      have LF : Hid ((((q.drop 1).take (q.length - 1)).map Value.string).length = (q.length - 1) * 1) := by show _ = _; simp
      have HBA : Hid (∀ (w2 : World), ((w1.alloc (.cells #[.string (px ++ qx)] 9)).drew).grownBy w2 vj.ownBlock → Below w'.heap.size w' w2) := by
        intro w2 hg
        have hlt := HO1.out.lt
        exact ((HB1.out.alloc (by omega) (.cells #[.string (px ++ qx)] 9)).drew).grown hg (by simp; omega) (fun k hk => (hlt k hk).1)
      have HNB : Hid (∀ (w2 : World), Below w'.heap.size w' w2 → ∀ (j : Nat) (u : Value), (((q.drop 1).take (q.length - 1)).map Value.string)[j]? = some u → w2.cell? ((⟨b2, o2 + 1, none⟩ : Addr).add j) = some u) := by
        intro w2 hb
        exact strs_news (b := b2) (o := o2) (p := q) 1 (q.length - 1) (by omega) (fun i hi => (hb.cell (p := ⟨b2, o2 + i, none⟩) hqb).trans (HC2.out i hi))
      go_region_law (first
        | (refine step_append_own rfl (.tmp 53) (.tmp 64) 26 rfl w'.heap.size 9 _ 1 16 Try.underlying26 info9 rfl (by decide) _ _ _ rfl OWNA.out ⟨w1.heap.size, 0, none⟩ 1 1 [.string (px ++ qx)] rfl rfl NEWA.out (one_one rfl) LA.out LB.out LC.out ?_; intro v2 w2 hown2 hg2; have HO2 := Lib.hid hown2; have HB2 := Lib.hid (HBA.out w2 hg2); clear hown2 hg2)
        | (refine step_append_own rfl (.tmp 65) (.tmp 67) 26 rfl w'.heap.size 9 _ 1 16 Try.underlying26 info9 rfl (by decide) _ _ _ rfl HO2.out ⟨b2, o2 + 1, none⟩ (q.length - 1) (c2 - 1) (((q.drop 1).take (q.length - 1)).map Value.string) rfl LF.out (HNB.out _ HB2.out) (strs_one _) LD.out LE.out HB2.out.size ?_; intro v3 w3 hown3 hg3; have HO3 := Lib.hid hown3; have HB3 := Lib.hid (HB2.out.grown hg3 HB2.out.size (fun k hk => (HO2.out.lt k hk).1)); clear hown3 hg3))
      all_goals
        have hown3 : w3.ownsRow w'.heap.size 9 1 v3 (joinL p q).length ((joinL p q).map Value.string) := by
          rw [joinL_length p q l1 l2]
          have := HO3.out
          unfold joinL
          rw [HPX.out, HQX.out]
          simpa using this
        have SJ := Lib.hid (strs_of_own (by rw [joinL_length p q l1 l2]; omega) hown3)
        have F1 := two_full s t
        have M1 := fun (wx : World) => match10 _ [s, t] (s ++ t) _ (strs_pair wx s t) (by simp) (by rw [ByteArray.size_append]; omega) (by intro i hi; match i, hi with | 0, _ => simp [List.getD]; omega | 1, _ => simp [List.getD]; omega)
        rw [F1] at M1
        have M2 := fun (wx : World) (hb : Below w'.heap.size w' wx) => match10 _ p s wx (HV1.out.below hb) (by omega) (by omega) (fun i hi => by have := N1.out i hi; omega)
        have M3 := fun (wx : World) (hb : Below w'.heap.size w' wx) => match10 _ q t wx (HV2.out.below hb) (by omega) (by omega) (fun i hi => by have := N2.out i hi; omega)
        have M4 := fun (wx : World) (hb : Below w3.heap.size w3 wx) => match10 _ (joinL p q) (s ++ t) wx (SJ.out.below hb) (by rw [joinL_length p q l1 l2]; omega) (by rw [ByteArray.size_append]; omega) (joinL_small p q N1.out N2.out l1 l2)
        have J := Lib.hid (join_full p q s t l1 l2)
        have HM1 := Lib.hid M1
        have HM2 := Lib.hid M2
        have HM3 := Lib.hid M3
        have HM4 := Lib.hid M4
        have g1 : s.size + t.size ≤ 9223372036854775807 := by omega
        have g2 : ¬ 9223372036854775807 < s.size + t.size := by omega
        clear M1 M2 M3 M4 F1 hown3
        go_wp2_with fail
        refine (HM1.out _).mono ?_
        rintro e w4 ⟨rfl, hb4⟩
        have hb43 : Below w3.heap.size w3 w4 := ((Below.refl _ _).alloc (Nat.le_refl _) (.cells #[.string s, .string t] 9)).trans (hb4.mono (by simp))
        have H43 := Lib.hid hb43
        have H4' := Lib.hid (HB3.out.trans (hb43.mono HB3.out.size))
        clear hb4 hb43
        simp only []
        go_wp2_with fail
        cases hr2 : fullB (p.map bs) (bs s) with
        | false =>
          rw [hr2] at HM2
          refine (HM2.out _ H4'.out).mono ?_
          rintro e w5 ⟨rfl, hb5⟩
          have H5 := Lib.hid (H4'.out.trans (hb5.mono H4'.out.size))
          clear hb5
          simp only []
          go_wp2_with fail
          go_ret
          exact ⟨rfl, H5.out⟩
        | true =>
          rw [hr2] at HM2
          refine (HM2.out _ H4'.out).mono ?_
          rintro e w5 ⟨rfl, hb5⟩
          have H5 := Lib.hid (H4'.out.trans (hb5.mono H4'.out.size))
          have H53 := Lib.hid (H43.out.trans (hb5.mono H43.out.size))
          clear hb5
          simp only []
          go_wp2_with fail
          cases hr3 : fullB (q.map bs) (bs t) with
          | false =>
            rw [hr3] at HM3
            refine (HM3.out _ H5.out).mono ?_
            rintro e w6 ⟨rfl, hb6⟩
            have H6 := Lib.hid (H5.out.trans (hb6.mono H5.out.size))
            clear hb6
            simp only []
            go_wp2_with fail
            go_ret
            exact ⟨rfl, H6.out⟩
          | true =>
            rw [hr3] at HM3
            rw [J.out hr2 hr3] at HM4
            refine (HM3.out _ H5.out).mono ?_
            rintro e w6 ⟨rfl, hb6⟩
            have H6 := Lib.hid (H5.out.trans (hb6.mono H5.out.size))
            have H63 := Lib.hid (H53.out.trans (hb6.mono H53.out.size))
            clear hb6
            simp only []
            go_wp2_with fail
            refine (HM4.out _ H63.out).mono ?_
            rintro e w7 ⟨rfl, hb7⟩
            have H7 := Lib.hid (H6.out.trans (hb7.mono H6.out.size))
            clear hb7
            simp only []
            go_wp2_with fail
            go_ret
            exact ⟨rfl, H7.out⟩
  · by_cases h1 : fitsB p = true
    · rw [h1] at C1
      by_cases h2 : fitsB q = true
      · rw [h2] at C2
        by_cases e1 : (2147483647 : Int) < (s.size : Int)
        · go_enter Try.func4, Try.ntmps4
          go_wp2_with fail
          refine C1.mono ?_
          rintro e w' ⟨rfl, rfl⟩
          go_wp2_with fail
          refine C2.mono ?_
          rintro e w' ⟨rfl, rfl⟩
          go_wp2_with fail
          go_ret
          exact ⟨rfl, Below.refl _ _⟩
        · by_cases e2 : (2147483647 : Int) < (t.size : Int)
          · go_enter Try.func4, Try.ntmps4
            go_wp2_with fail
            refine C1.mono ?_
            rintro e w' ⟨rfl, rfl⟩
            go_wp2_with fail
            refine C2.mono ?_
            rintro e w' ⟨rfl, rfl⟩
            go_wp2_with fail
            go_ret
            exact ⟨rfl, Below.refl _ _⟩
          · by_cases h3 : smallB p = true
            · rw [h3] at D1
              by_cases h4 : smallB q = true
              · rw [h4] at D2
                by_cases e3 : (60 : Int) < (s.size : Int)
                · go_enter Try.func4, Try.ntmps4
                  go_wp2_with fail
                  refine C1.mono ?_
                  rintro e w' ⟨rfl, rfl⟩
                  go_wp2_with fail
                  refine C2.mono ?_
                  rintro e w' ⟨rfl, rfl⟩
                  go_wp2_with fail
                  refine D1.mono ?_
                  rintro e w' ⟨rfl, rfl⟩
                  go_wp2_with fail
                  refine D2.mono ?_
                  rintro e w' ⟨rfl, rfl⟩
                  go_wp2_with fail
                  go_ret
                  exact ⟨rfl, Below.refl _ _⟩
                · have e4 : (60 : Int) < (t.size : Int) := by
                    by_cases h : t.size ≤ 60
                    · exact absurd ⟨h1, h2, h3, h4, by omega, h⟩ hok
                    · omega
                  clear hok
                  go_enter Try.func4, Try.ntmps4
                  go_wp2_with fail
                  refine C1.mono ?_
                  rintro e w' ⟨rfl, rfl⟩
                  go_wp2_with fail
                  refine C2.mono ?_
                  rintro e w' ⟨rfl, rfl⟩
                  go_wp2_with fail
                  refine D1.mono ?_
                  rintro e w' ⟨rfl, rfl⟩
                  go_wp2_with fail
                  refine D2.mono ?_
                  rintro e w' ⟨rfl, rfl⟩
                  go_wp2_with fail
                  go_ret
                  exact ⟨rfl, Below.refl _ _⟩
              · simp only [Bool.not_eq_true] at h4
                rw [h4] at D2
                go_enter Try.func4, Try.ntmps4
                go_wp2_with fail
                refine C1.mono ?_
                rintro e w' ⟨rfl, rfl⟩
                go_wp2_with fail
                refine C2.mono ?_
                rintro e w' ⟨rfl, rfl⟩
                go_wp2_with fail
                refine D1.mono ?_
                rintro e w' ⟨rfl, rfl⟩
                go_wp2_with fail
                refine D2.mono ?_
                rintro e w' ⟨rfl, rfl⟩
                go_wp2_with fail
                go_ret
                exact ⟨rfl, Below.refl _ _⟩
            · simp only [Bool.not_eq_true] at h3
              rw [h3] at D1
              go_enter Try.func4, Try.ntmps4
              go_wp2_with fail
              refine C1.mono ?_
              rintro e w' ⟨rfl, rfl⟩
              go_wp2_with fail
              refine C2.mono ?_
              rintro e w' ⟨rfl, rfl⟩
              go_wp2_with fail
              refine D1.mono ?_
              rintro e w' ⟨rfl, rfl⟩
              go_wp2_with fail
              go_ret
              exact ⟨rfl, Below.refl _ _⟩
      · simp only [Bool.not_eq_true] at h2
        rw [h2] at C2
        go_enter Try.func4, Try.ntmps4
        go_wp2_with fail
        refine C1.mono ?_
        rintro e w' ⟨rfl, rfl⟩
        go_wp2_with fail
        refine C2.mono ?_
        rintro e w' ⟨rfl, rfl⟩
        go_wp2_with fail
        go_ret
        exact ⟨rfl, Below.refl _ _⟩
    · simp only [Bool.not_eq_true] at h1
      rw [h1] at C1
      go_enter Try.func4, Try.ntmps4
      go_wp2_with fail
      refine C1.mono ?_
      rintro e w' ⟨rfl, rfl⟩
      go_wp2_with fail
      go_ret
      exact ⟨rfl, Below.refl _ _⟩
end Go.Proofs.Ythbdcekcockhfaa.Pat
