/-
  WALKS of the pattern functions, seventh part: the reference's Match (11).
-/
import Derived.Test.YthbdcekcockhfaaPatF
import Derived.Deep.OwnRows
namespace Go.Proofs.Ythbdcekcockhfaa.Pat
open Go.RowKit

open Classical in
/-- whether a text is the pieces -/
noncomputable def fullB (l : List Bs) (s : Bs) : Bool := decide (PM.full l s)
open Classical in
/-- whether what stands behind a place is the pieces from one on, each behind anything -/
noncomputable def tailB (r : List Bs) (s : Bs) : Bool := decide (PM.tailM r s)

theorem full_no {p : Bs} {r : List Bs} {s : Bs} (h : ∀ b, s ≠ p ++ b) : fullB (p :: r) s = false := by
  unfold fullB; rw [decide_eq_false_iff_not]; rintro ⟨b, hb, _⟩; exact h b hb
theorem full_yes {p : Bs} {r : List Bs} {s b : Bs} (h : s = p ++ b) (hr : r ≠ []) : fullB (p :: r) s = tailB r b := by
  unfold fullB tailB
  congr 1
  rw [PM.full, eq_iff_iff]
  constructor
  · rintro ⟨b', hb, h2⟩
    rw [if_neg hr] at h2
    have := List.append_cancel_left (h.symm.trans hb)
    subst this; exact h2
  · intro h2; exact ⟨b, h, by rw [if_neg hr]; exact h2⟩
open Classical in
theorem full_one {p : Bs} {s b : Bs} (h : s = p ++ b) : fullB [p] s = b.isEmpty := by
  have h1 : PM.full [p] s ↔ b = [] := by
    constructor
    · rintro ⟨b', hb, h2⟩
      have := List.append_cancel_left (h.symm.trans hb)
      rw [this]; simpa using h2
    · intro h2; exact ⟨b, h, by simpa using h2⟩
  unfold fullB
  by_cases hb : b = []
  · rw [decide_eq_true (h1.2 hb), hb]; rfl
  · rw [decide_eq_false (fun h => hb (h1.1 h))]; cases b with
    | nil => exact absurd rfl hb
    | cons => rfl

open Classical in
theorem tail_last_yes (x last : ByteArray) (i : Nat) (hi : i ≤ x.size) (h : last.size ≤ x.size - i) : tailB [bs last] ((bs x).drop i) = ((x.extract (x.size - last.size) x.size).toList == last.toList) := by
  unfold tailB
  rw [Bool.eq_iff_iff]
  rw [decide_eq_true_iff, PM.tail_last, beq_iff_eq, bsE, bsE, bs_extract]
  rw [List.drop_drop, List.length_drop, bs_len, bs_len]
  rw [show i + (x.size - i - last.size) = x.size - last.size from by omega]
  exact ⟨fun h => h.2, fun h' => ⟨h, h'⟩⟩
open Classical in
theorem tail_last_no (x last : ByteArray) (i : Nat) (h : x.size - i < last.size) : tailB [bs last] ((bs x).drop i) = false := by
  unfold tailB
  rw [decide_eq_false_iff_not, PM.tail_last, List.length_drop, bs_len, bs_len]
  omega

/-- the piece stands at a place, and what is behind it is the rest -/
def Here (x p : ByteArray) (r : List Bs) (i : Nat) : Prop := p.size ≤ x.size - i ∧ (x.extract i (i + p.size)).toList = p.toList ∧ tailB r ((bs x).drop (i + p.size)) = true
theorem bs_extract2 (y : ByteArray) (i j : Nat) : bs (y.extract i j) = ((bs y).drop i).take (j - i) := by
  cases y with
  | mk a => cases a with | mk l => simp only [bs, ByteArray.data_extract]; simp
theorem here_iff (x p : ByteArray) (r : List Bs) (i : Nat) : Here x p r i ↔ ∃ b, (bs x).drop i = bs p ++ b ∧ PM.tailM r b := by
  have e2 : tailB r ((bs x).drop (i + p.size)) = true ↔ PM.tailM r ((bs x).drop (i + p.size)) := by unfold tailB; simp
  unfold Here
  rw [e2, bsE, bsE, bs_extract2, show i + p.size - i = p.size from by omega, ← List.drop_drop]
  constructor
  · rintro ⟨h1, h2, h3⟩
    refine ⟨_, ?_, h3⟩
    conv => lhs; rw [← List.take_append_drop p.size ((bs x).drop i), h2]
  · rintro ⟨b, h1, h2⟩
    have hl := congrArg List.length h1
    rw [List.length_drop, List.length_append, bs_len, bs_len] at hl
    have hp : p.size = (bs p).length := (bs_len p).symm
    refine ⟨by omega, by rw [h1, hp, List.take_left], by rw [h1, hp, List.drop_left]; exact h2⟩
open Classical in
theorem tail_true {x p : ByteArray} {r : List Bs} {i : Nat} (hr : r ≠ []) (h : Here x p r i) : tailB (bs p :: r) ((bs x).drop i) = true := by
  unfold tailB
  rw [decide_eq_true_iff, PM.tail_step _ _ hr]
  exact .inl ((here_iff x p r i).1 h)
open Classical in
theorem tail_next {x p : ByteArray} {r : List Bs} {i : Nat} (hr : r ≠ []) (h : ¬ Here x p r i) (hi : i < x.size) : tailB (bs p :: r) ((bs x).drop i) = tailB (bs p :: r) ((bs x).drop (i + 1)) := by
  unfold tailB
  rw [Bool.eq_iff_iff, decide_eq_true_iff, decide_eq_true_iff, PM.tail_step _ _ hr]
  rw [here_iff] at h
  have hd : (bs x).drop i = (bs x)[i]'(by rw [bs_len]; exact hi) :: (bs x).drop (i + 1) := List.drop_eq_getElem_cons _
  constructor
  · rintro (h' | ⟨a, u, h1, h2⟩)
    · exact absurd h' h
    · rw [hd] at h1
      injection h1 with h1 h3
      rw [h3]; exact h2
  · intro h'
    exact .inr ⟨_, _, hd, h'⟩
open Classical in
theorem tail_end {x p : ByteArray} {r : List Bs} {i : Nat} (hr : r ≠ []) (h : ¬ Here x p r i) (hi : x.size ≤ i) : tailB (bs p :: r) ((bs x).drop i) = false := by
  unfold tailB
  rw [decide_eq_false_iff_not, PM.tail_step _ _ hr]
  rw [here_iff] at h
  rintro (h' | ⟨a, u, h1, h2⟩)
  · exact h h'
  · rw [List.drop_eq_nil_of_le (by rw [bs_len]; exact hi)] at h1
    cases h1

/-- a row of truths -/
def BoolRow (w : World) (g n : Nat) (f : Nat → Bool) : Prop := w.rowIs g 4 n (fun i => .bool (f i))
theorem BoolRow.set {w : World} {g n : Nat} {f f' : Nat → Bool} (h : BoolRow w g n f) (i : Nat) (e : Bool) (hi : f' i = e) (ho : ∀ j, j ≠ i → f' j = f j) : BoolRow (w.setCell ⟨g, i, none⟩ (.bool e)) g n f' := by
  refine (World.rowIs.set h i (.bool e)).congr fun j hj => ?_
  by_cases hji : j = i
  · subst hji; rw [if_pos rfl, hi]
  · rw [if_neg hji, ho j hji]

theorem info4 : (Try.prog.info? 4).map (fun i => (i.zero, i.size, i.bytes)) = some (some (.bool false), 1, 1) := by kernel_rfl

theorem bs_take (y : ByteArray) (j : Nat) : bs (y.extract 0 j) = (bs y).take j := by
  cases y with
  | mk a => cases a with | mk l => simp only [bs, ByteArray.data_extract]; simp

set_option maxRecDepth 100000 in
set_option maxHeartbeats 2000000 in
theorem ref11 (v : Value) (l : List ByteArray) (s : ByteArray) (w : World) (hv : StrsAt w v l) (hne : 1 ≤ l.length) (hlen : l.length ≤ 1000) (hs : s.size ≤ 1000000) (hsz : ∀ i, i < l.length → (l.getD i ByteArray.empty).size ≤ 1000) :
    Calls Try.prog 11 #[v, .string s] w fun e w' => e = .returned (.bool (fullB (l.map bs) (bs s))) ∧ Below w.heap.size w w' := by
  obtain ⟨a, c, rfl, _, hl⟩ := hv
  rcases hl with rfl | ⟨b, o, rfl, hc⟩
  · simp at hne
  · have HC := Lib.hid hc
    have HS := Lib.hid hsz
    have hin : b < w.heap.size := World.block_lt_of_cell? _ _ (HC.out 0 (by omega))
    have hc0 : w.cell? ⟨b, o, none⟩ = some (.string (l.getD 0 ByteArray.empty)) := by simpa using HC.out 0 (by omega)
    have hp0 := HS.out 0 (by omega)
    have hmap : l.map bs = bs (l.getD 0 ByteArray.empty) :: (l.map bs).tail := by
      cases l with
      | nil => simp at hne
      | cons x r => rfl
    generalize hp : l.getD 0 ByteArray.empty = p at hc0 hp0 hmap
    have HM := Lib.hid hmap
    have hl1 : ((l.length : Int) == 0) = false := beq_eq_false_iff_ne.2 (by omega)
    clear hc hsz hmap hp
    by_cases hps : s.size < p.size
    · have HF := Lib.hid (show fullB (l.map bs) (bs s) = false from by
        rw [HM.out]; exact full_no (fun x hx => by have := congrArg List.length hx; rw [List.length_append, bs_len, bs_len] at this; omega))
      go_enter Try.func11, Try.ntmps11
      go_wp2
      go_ret
      rw [HF.out]
      exact ⟨rfl, Below.refl _ _⟩
    · by_cases hpe : (s.extract 0 p.size).toList = p.toList
      · have hpre : bs s = bs p ++ bs (s.extract p.size s.size) := by
          rw [bs_extract]
          have : bs p = (bs s).take p.size := by rw [← bs_take, ← bsE, ← bsE, hpe]
          rw [this, List.take_append_drop]
        have hpb : ((s.extract 0 p.size).toList == p.toList) = true := by simpa using hpe
        have hxs : (s.extract p.size s.size).size ≤ 1000000 := by simp [ByteArray.size_extract]; omega
        clear hpe
        by_cases h1 : l.length = 1
        · have HF := Lib.hid (show fullB (l.map bs) (bs s) = (s.extract p.size s.size).toList.isEmpty from by
            have : (l.map bs).tail = [] := List.length_eq_zero_iff.1 (by simp; omega)
            rw [HM.out, this, full_one hpre, bsE])
          have h1b : ((l.length : Int) == 1) = true := beq_iff_eq.2 (by omega)
          clear h1
          go_enter Try.func11, Try.ntmps11
          go_wp2
          go_ret
          rw [HF.out]
          exact ⟨rfl, Below.refl _ _⟩
        · have HF := Lib.hid (show fullB (l.map bs) (bs s) = tailB (l.map bs).tail (bs (s.extract p.size s.size)) from by
            have : (l.map bs).tail ≠ [] := fun h => by have := congrArg List.length h; simp at this; omega
            rw [HM.out, full_yes hpre this]
            rfl)
          have h1b : ((l.length : Int) == 1) = false := beq_eq_false_iff_ne.2 (by omega)
          have hl2 : 2 ≤ l.length := by omega
          clear h1 hpre
          have hcl : w.cell? ⟨b, o + (l.length - 1), none⟩ = some (.string (l.getD (l.length - 1) ByteArray.empty)) := HC.out (l.length - 1) (by omega)
          have hla := HS.out (l.length - 1) (by omega)
          generalize hlast : l.getD (l.length - 1) ByteArray.empty = last at hcl hla
          have HLA := Lib.hid hlast
          generalize hx : s.extract p.size s.size = x at hxs HF
          have hmk : ∀ w : World, (Instr.makeSlice 40 (.int .i64 ((x.size : Int) + 1)) (.int .i64 ((x.size : Int) + 1))).run Try.prog w = .ok (.slice (some ⟨w.heap.size, 0, none⟩) (x.size + 1) (x.size + 1)) (w.alloc (.cells (madeCells #[.bool false] (x.size + 1)) 4)) := fun w =>
            run_make_row' 40 4 (.bool false) 1 Try.underlying40 info4 rfl .i64 .i64 (x.size + 1) (by omega) (by omega) w
          have HMK := Lib.hid hmk
          clear hlast
          go_enter Try.func11, Try.ntmps11
          go_wp2_with fail
          clear hx hmk
          have hrow0 : BoolRow (w.alloc (.cells (madeCells #[.bool false] (x.size + 1)) 4)) w.heap.size (x.size + 1) (fun i => if i < 0 then tailB [bs last] ((bs x).drop i) else false) :=
            (World.rowIs_made w (.bool false) (x.size + 1) 4).congr (fun i _ => by simp)
          have hbel0 : Below w.heap.size w (w.alloc (.cells (madeCells #[.bool false] (x.size + 1)) 4)) := (Below.refl _ _).alloc (Nat.le_refl _) _
          generalize w.alloc (.cells (madeCells #[.bool false] (x.size + 1)) 4) = w1 at hrow0 hbel0 ⊢
          have HR0 := Lib.hid hrow0
          have HB0 := Lib.hid hbel0
          clear hrow0 hbel0
          go_loopw [55] (fun i wr => ∃ k : Nat, k ≤ x.size + 1 ∧ i = .int .i64 k ∧ BoolRow wr w.heap.size (x.size + 1) (fun i => if i < k then tailB [bs last] ((bs x).drop i) else false) ∧ Below w.heap.size w wr) (fun i _ => x.size + 1 - (intOf i).toNat)
          case atStart => exact ⟨0, Nat.zero_le _, rfl, HR0.out, HB0.out⟩
          case round =>
            obtain ⟨k, hk, rfl, hrow, hbel⟩ := hrel
            have HRow := Lib.hid hrow
            have HBel := Lib.hid hbel
            clear hrow hbel
            by_cases hkl : k < x.size + 1
            · have hce := World.rowIs.cell HRow.out hkl
              have hfr := World.rowIs.frozen HRow.out k
              simp only [Nat.lt_irrefl, if_false] at hce
              by_cases hc1 : last.size ≤ x.size - k
              · have hyes := tail_last_yes x last k (by omega) hc1
                obtain ⟨e, he⟩ : ∃ e, ((x.extract (x.size - last.size) x.size).toList == last.toList) = e := ⟨_, rfl⟩
                rw [he] at hyes
                have HY := Lib.hid hyes
                clear hyes
                have hc2 : (last.size : Int) ≤ (x.size : Int) - (k : Int) := by omega
                go_wp2_with fail
                refine ⟨⟨k + 1, by omega, by go_num, HRow.out.set k _ ?_ ?_, HBel.out.setCell (Nat.le_refl _) _⟩, by simp [intOf]; omega⟩
                · rw [if_pos (by omega)]; exact HY.out
                · intro j hj; by_cases h : j < k
                  · rw [if_pos h, if_pos (by omega)]
                  · rw [if_neg h, if_neg (by omega)]
              · have HY := Lib.hid (tail_last_no x last k (by omega))
                have hc2 : ¬ (last.size : Int) ≤ (x.size : Int) - (k : Int) := by omega
                go_wp2_with fail
                refine ⟨⟨k + 1, by omega, by go_num, HRow.out.set k _ ?_ ?_, HBel.out.setCell (Nat.le_refl _) _⟩, by simp [intOf]; omega⟩
                · rw [if_pos (by omega)]; exact HY.out
                · intro j hj; by_cases h : j < k
                  · rw [if_pos h, if_pos (by omega)]
                  · rw [if_neg h, if_neg (by omega)]
            · go_wp2_with fail
              have hk1 : k = x.size + 1 := by omega
              have hrowT : BoolRow wr w.heap.size (x.size + 1) (fun i => tailB ((l.map bs).drop (l.length - 2 + 1)) ((bs x).drop i)) := by
                refine World.rowIs.congr HRow.out fun i hi => ?_
                have hd : (l.map bs).drop (l.length - 2 + 1) = [bs last] := by
                  rw [← HLA.out, List.getD_eq_getElem?_getD, List.getElem?_eq_getElem (by omega)]
                  rw [List.drop_eq_getElem_cons (by simp; omega)]
                  rw [List.drop_eq_nil_of_le (by simp; omega)]
                  simp [show l.length - 2 + 1 = l.length - 1 from by omega]
                show Value.bool (if i < k then tailB [bs last] (List.drop i (bs x)) else false) = _
                rw [if_pos (by omega), hd]
              have HRT := Lib.hid hrowT
              clear hrowT hk hkl
              clear HRow HR0
              go_loopw [7, 9] (fun ends kv wr => ∃ (kk G : Nat), kk ≤ l.length - 2 ∧ ends = .slice (some ⟨G, 0, none⟩) (x.size + 1) (x.size + 1) ∧ kv = .int .i64 kk ∧ w.heap.size ≤ G ∧
                BoolRow wr G (x.size + 1) (fun i => tailB ((l.map bs).drop (kk + 1)) ((bs x).drop i)) ∧ Below w.heap.size w wr) (fun _ kv _ => (intOf kv).toNat)
              case atStart => exact ⟨l.length - 2, w.heap.size, Nat.le_refl _, rfl, by congr 1; omega, Nat.le_refl _, HRT.out, HBel.out⟩
              case round =>
                obtain ⟨kk, G, hkk, rfl, rfl, hG, hrow, hbel⟩ := hrel
                have HRow := Lib.hid hrow
                have HB2 := Lib.hid hbel
                clear hrow hbel
                by_cases hk1 : 1 ≤ kk
                · have hcp := (HB2.out.cell (p := ⟨b, o + kk, none⟩) hin).trans (HC.out kk (by omega))
                  have hps2 := HS.out kk (by omega)
                  have hdk : (l.map bs).drop kk = bs (l.getD kk ByteArray.empty) :: (l.map bs).drop (kk + 1) := by
                    rw [List.drop_eq_getElem_cons (by simp; omega)]
                    simp [List.getD_eq_getElem?_getD, List.getElem?_eq_getElem (show kk < l.length from by omega)]
                  have hrne : (l.map bs).drop (kk + 1) ≠ [] := fun h => by have := congrArg List.length h; simp at this; omega
                  generalize l.getD kk ByteArray.empty = q at hcp hps2 hdk
                  have HDK := Lib.hid hdk
                  have HRN := Lib.hid hrne
                  clear hdk hrne
                  have hmk := HMK.out
                  go_wp2_with fail
                  have hrowA : BoolRow (wr.alloc (.cells (madeCells #[.bool false] (x.size + 1)) 4)) wr.heap.size (x.size + 1) (fun i => if (x.size : Int) < i then tailB ((l.map bs).drop kk) ((bs x).drop i) else false) :=
                    (World.rowIs_made wr (.bool false) (x.size + 1) 4).congr (fun i hi => by show _ = Value.bool (if _ then _ else _); rw [if_neg (by omega)])
                  have hrowB : BoolRow (wr.alloc (.cells (madeCells #[.bool false] (x.size + 1)) 4)) G (x.size + 1) (fun i => tailB ((l.map bs).drop (kk + 1)) ((bs x).drop i)) := World.rowIs.alloc HRow.out _
                  have hGl := World.rowIs.lt HRow.out
                  have hszl : w.heap.size ≤ wr.heap.size := by omega
                  have hbelA : Below w.heap.size w (wr.alloc (.cells (madeCells #[.bool false] (x.size + 1)) 4)) := HB2.out.alloc (by omega) _
                  generalize hG2 : wr.heap.size = G2 at hrowA hGl hszl ⊢
                  generalize wr.alloc (.cells (madeCells #[.bool false] (x.size + 1)) 4) = w2 at hrowA hrowB hbelA ⊢
                  have HRA := Lib.hid hrowA
                  have HRB := Lib.hid hrowB
                  have HBA := Lib.hid hbelA
                  clear hrowA hrowB hbelA hmk hcp hG2
                  go_loopw [11] (fun iv wr => ∃ (t : Int), -1 ≤ t ∧ t ≤ x.size ∧ iv = .int .i64 t ∧
                    BoolRow wr G2 (x.size + 1) (fun i => if t < i then tailB ((l.map bs).drop kk) ((bs x).drop i) else false) ∧
                    BoolRow wr G (x.size + 1) (fun i => tailB ((l.map bs).drop (kk + 1)) ((bs x).drop i)) ∧ Below w.heap.size w wr) (fun iv _ => (intOf iv + 1).toNat)
                  case atStart => exact ⟨x.size, by omega, by omega, rfl, HRA.out, HRB.out, HBA.out⟩
                  case round =>
                    obtain ⟨t, ht1, ht2, rfl, hrA, hrB, hb3⟩ := hrel
                    have HA := Lib.hid hrA
                    have HB := Lib.hid hrB
                    have HB3 := Lib.hid hb3
                    clear hrA hrB hb3
                    by_cases ht0 : 0 ≤ t
                    · obtain ⟨i, rfl⟩ := Int.eq_ofNat_of_zero_le ht0
                      have hix : i < x.size + 1 := by omega
                      have hce := World.rowIs.cell HA.out hix
                      have hfr := World.rowIs.frozen HA.out i
                      simp only [Int.lt_irrefl, if_false] at hce
                      have fin : ∀ (wx : World) (e : Bool), tailB ((l.map bs).drop kk) ((bs x).drop i) = e → BoolRow (wr.setCell ⟨G2, i, none⟩ (.bool e)) G2 (x.size + 1) (fun j => if ((i : Int) - 1) < j then tailB ((l.map bs).drop kk) ((bs x).drop j) else false) ∧ BoolRow (wr.setCell ⟨G2, i, none⟩ (.bool e)) G (x.size + 1) (fun i => tailB ((l.map bs).drop (kk + 1)) ((bs x).drop i)) ∧ Below w.heap.size w (wr.setCell ⟨G2, i, none⟩ (.bool e)) := by
                        intro wx e he
                        refine ⟨HA.out.set i e ?_ ?_, World.rowIs.setOther HB.out (by show G ≠ G2; omega) _, HB3.out.setCell (by show w.heap.size ≤ G2; omega) _⟩
                        · rw [if_pos (by omega)]; exact he
                        · intro j hj
                          by_cases h : (i : Int) < j
                          · rw [if_pos h, if_pos (by omega)]
                          · rw [if_neg h, if_neg (by omega)]
                      have FIN := Lib.hid (fin wr)
                      clear fin
                      by_cases hA : q.size ≤ x.size - i
                      · have hA1 : (q.size : Int) ≤ (x.size : Int) - (i : Int) := by omega
                        have hA2 : (i : Int) + (q.size : Int) ≤ (x.size : Int) := by omega
                        by_cases hE : (x.extract i (i + q.size)).toList = q.toList
                        · have hE1 : ((x.extract i (i + q.size)).toList == q.toList) = true := by simpa using hE
                          have hcE := World.rowIs.cell HB.out (show i + q.size < x.size + 1 by omega)
                          simp only at hcE
                          generalize hT : tailB ((l.map bs).drop (kk + 1)) ((bs x).drop (i + q.size)) = tt at hcE
                          cases tt with
                          | true =>
                            have HF1 := Lib.hid (FIN.out true (by rw [HDK.out]; exact tail_true HRN.out ⟨hA, hE, hT⟩))
                            clear hT hE hA
                            by_cases hi1 : i < x.size
                            · have hi2 : (i : Int) < (x.size : Int) := by omega
                              go_wp2_with fail
                              refine ⟨⟨(i : Int) - 1, by omega, by omega, rfl, HF1.out⟩, by simp [intOf] <;> omega⟩
                            · have hi2 : ¬ (i : Int) < (x.size : Int) := by omega
                              go_wp2_with fail
                              refine ⟨⟨(i : Int) - 1, by omega, by omega, rfl, HF1.out⟩, by simp [intOf] <;> omega⟩
                          | false =>
                            have HN := Lib.hid (show ¬ Here x q ((l.map bs).drop (kk + 1)) i from fun h => by have := h.2.2; rw [hT] at this; cases this)
                            clear hT hE hA
                            by_cases hi1 : i < x.size
                            · have hi2 : (i : Int) < (x.size : Int) := by omega
                              have hce1 := World.rowIs.cell HA.out (show i + 1 < x.size + 1 by omega)
                              have hnx := tail_next (x := x) (p := q) HRN.out HN.out hi1
                              rw [← HDK.out] at hnx
                              simp only [show (i : Int) < ((i + 1 : Nat) : Int) from by omega, if_true] at hce1
                              generalize hT1 : tailB ((l.map bs).drop kk) ((bs x).drop (i + 1)) = t1 at hce1 hnx
                              have HF1 := Lib.hid (FIN.out t1 hnx)
                              clear hT1 hnx
                              go_wp2_with fail
                              refine ⟨⟨(i : Int) - 1, by omega, by omega, rfl, HF1.out⟩, by simp [intOf] <;> omega⟩
                            · have hi2 : ¬ (i : Int) < (x.size : Int) := by omega
                              have HF1 := Lib.hid (FIN.out false (by rw [HDK.out]; exact tail_end HRN.out HN.out (by omega)))
                              go_wp2_with fail
                              refine ⟨⟨(i : Int) - 1, by omega, by omega, rfl, HF1.out⟩, by simp [intOf] <;> omega⟩
                        · have hE1 : ((x.extract i (i + q.size)).toList == q.toList) = false := by simpa using hE
                          have HN := Lib.hid (show ¬ Here x q ((l.map bs).drop (kk + 1)) i from fun h => hE h.2.1)
                          clear hE hA
                          by_cases hi1 : i < x.size
                          · have hi2 : (i : Int) < (x.size : Int) := by omega
                            have hce1 := World.rowIs.cell HA.out (show i + 1 < x.size + 1 by omega)
                            have hnx := tail_next (x := x) (p := q) HRN.out HN.out hi1
                            rw [← HDK.out] at hnx
                            simp only [show (i : Int) < ((i + 1 : Nat) : Int) from by omega, if_true] at hce1
                            generalize hT1 : tailB ((l.map bs).drop kk) ((bs x).drop (i + 1)) = t1 at hce1 hnx
                            have HF1 := Lib.hid (FIN.out t1 hnx)
                            clear hT1 hnx
                            go_wp2_with fail
                            refine ⟨⟨(i : Int) - 1, by omega, by omega, rfl, HF1.out⟩, by simp [intOf] <;> omega⟩
                          · have hi2 : ¬ (i : Int) < (x.size : Int) := by omega
                            have HF1 := Lib.hid (FIN.out false (by rw [HDK.out]; exact tail_end HRN.out HN.out (by omega)))
                            go_wp2_with fail
                            refine ⟨⟨(i : Int) - 1, by omega, by omega, rfl, HF1.out⟩, by simp [intOf] <;> omega⟩
                      · have hA1 : ¬ (q.size : Int) ≤ (x.size : Int) - (i : Int) := by omega
                        have HN := Lib.hid (show ¬ Here x q ((l.map bs).drop (kk + 1)) i from fun h => hA h.1)
                        clear hA
                        by_cases hi1 : i < x.size
                        · have hi2 : (i : Int) < (x.size : Int) := by omega
                          have hce1 := World.rowIs.cell HA.out (show i + 1 < x.size + 1 by omega)
                          have hnx := tail_next (x := x) (p := q) HRN.out HN.out hi1
                          rw [← HDK.out] at hnx
                          simp only [show (i : Int) < ((i + 1 : Nat) : Int) from by omega, if_true] at hce1
                          generalize hT1 : tailB ((l.map bs).drop kk) ((bs x).drop (i + 1)) = t1 at hce1 hnx
                          have HF1 := Lib.hid (FIN.out t1 hnx)
                          clear hT1 hnx
                          go_wp2_with fail
                          refine ⟨⟨(i : Int) - 1, by omega, by omega, rfl, HF1.out⟩, by simp [intOf] <;> omega⟩
                        · have hi2 : ¬ (i : Int) < (x.size : Int) := by omega
                          have HF1 := Lib.hid (FIN.out false (by rw [HDK.out]; exact tail_end HRN.out HN.out (by omega)))
                          go_wp2_with fail
                          refine ⟨⟨(i : Int) - 1, by omega, by omega, rfl, HF1.out⟩, by simp [intOf] <;> omega⟩
                    · go_wp2_with fail
                      refine ⟨⟨kk - 1, G2, by omega, rfl, by congr 1; omega, hszl, ?_, HB3.out⟩, by simp [intOf] <;> omega⟩
                      refine World.rowIs.congr HA.out fun i hi => ?_
                      show Value.bool (if t < (i : Int) then _ else _) = _
                      rw [if_pos (by omega), show kk - 1 + 1 = kk from by omega]
                · have hk0 : kk = 0 := by omega
                  have hce := World.rowIs.cell HRow.out (show 0 < x.size + 1 by omega)
                  have hfin : tailB ((l.map bs).drop (kk + 1)) ((bs x).drop 0) = fullB (l.map bs) (bs s) := by
                    rw [HF.out, hk0]; simp
                  simp only [hfin] at hce
                  clear hfin
                  obtain ⟨fb, hfb⟩ : ∃ fb, fullB (l.map bs) (bs s) = fb := ⟨_, rfl⟩
                  rw [hfb] at hce
                  have HFB := Lib.hid hfb
                  clear hfb
                  have hk2 : ¬ (1 : Int) ≤ (kk : Int) := by omega
                  clear hk0
                  go_wp2_with fail
                  go_ret
                  rw [HFB.out]
                  exact ⟨rfl, HB2.out⟩
      · have HF := Lib.hid (show fullB (l.map bs) (bs s) = false from by
          rw [HM.out]; exact full_no (fun x hx => by
            apply hpe
            rw [bsE, bsE, bs_take, hx, ← bs_len, List.take_left]))
        have hpb : ((s.extract 0 p.size).toList == p.toList) = false := by simpa using hpe
        clear hpe
        go_enter Try.func11, Try.ntmps11
        go_wp2
        go_ret
        rw [HF.out]
        exact ⟨rfl, Below.refl _ _⟩
end Go.Proofs.Ythbdcekcockhfaa.Pat
