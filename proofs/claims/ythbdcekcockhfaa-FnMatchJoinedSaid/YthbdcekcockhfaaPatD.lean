/-
  WALKS of the pattern functions, fourth part: NewPattern (18).
-/
import Derived.Test.YthbdcekcockhfaaPatC
namespace Go.Proofs.Ythbdcekcockhfaa.Pat
open Go.RowKit

abbrev Bs := List UInt8
/-- the cells of components -/
def flat (cs : List (Bool × Bs)) : List Value := cs.flatMap fun c => [.bool c.1, .string ⟨c.2.toArray⟩]
theorem flat_length (cs : List (Bool × Bs)) : (flat cs).length = cs.length * 2 := by
  induction cs with
  | nil => rfl
  | cons c cs ih => simp only [flat, List.flatMap_cons, List.length_append, List.length_cons, List.length_nil] at ih ⊢; omega
theorem flat_append (a b : List (Bool × Bs)) : flat (a ++ b) = flat a ++ flat b := by simp [flat]
theorem flat_get0 : ∀ (cs : List (Bool × Bs)) (j : Nat), j < cs.length → (flat cs)[j * 2]? = some (.bool (cs.getD j (false, [])).1)
  | c :: cs, 0, _ => rfl
  | c :: cs, j + 1, h => by
    have := flat_get0 cs j (by simpa using h)
    rw [show (j + 1) * 2 = j * 2 + 2 from by omega]
    simpa [flat] using this
theorem flat_get1 : ∀ (cs : List (Bool × Bs)) (j : Nat), j < cs.length → (flat cs)[j * 2 + 1]? = some (.string ⟨(cs.getD j (false, [])).2.toArray⟩)
  | c :: cs, 0, _ => rfl
  | c :: cs, j + 1, h => by
    have := flat_get1 cs j (by simpa using h)
    rw [show (j + 1) * 2 + 1 = j * 2 + 1 + 2 from by omega]
    simpa [flat] using this
theorem flat_set (cs : List (Bool × Bs)) (c : Bool × Bs) (l : Bs) : (flat (cs ++ [c])).set (cs.length * 2 + 1) (.string ⟨l.toArray⟩) = flat (cs ++ [(c.1, l)]) := by
  rw [flat_append, flat_append, List.set_append_right _ _ (by rw [flat_length]; omega), flat_length]
  congr 1
  rw [show cs.length * 2 + 1 - cs.length * 2 = 1 from by omega]
  rfl

/-- one item as an interface value -/
def itemV : Option Bs → Value
  | some s => .iface 39 (.string ⟨s.toArray⟩)
  | none => .iface 43 (.agg #[])
/-- a slice value that reads as a list of items -/
def ItemsAt (w : World) (v : Value) (l : List (Option Bs)) : Prop :=
  ∃ a c, v = .slice a l.length c ∧ (l = [] ∨ ∃ b, a = some ⟨b, 0, none⟩ ∧ b < w.heap.size ∧ ∀ i, i < l.length → w.cell? ⟨b, i, none⟩ = some (itemV (l.getD i none)))

def sumLen (l : List (Option Bs)) : Nat := (l.map fun o => (o.getD []).length).sum

/-- what NewPattern leaves: a slice of the call's own with just these components -/
def PatEnd (B : Nat) (w : World) (cs : List (Bool × Bs)) (e : Ending) (w' : World) : Prop :=
  ∃ v, e = .returned (.agg #[v]) ∧ w'.ownsRow B 46 2 v cs.length (flat cs) ∧ Below B w w'

@[go_sem] theorem as39_9 (v : Value) (w : World) : (Instr.typeAssert (.iface 39 v) 20 9 true).run Try.prog w = .ok (.tuple #[.string ByteArray.empty, .bool false]) w := by kernel_rfl
@[go_sem] theorem as39_39 (v : Value) (w : World) : (Instr.typeAssert (.iface 39 v) 20 39 true).run Try.prog w = .ok (.tuple #[v, .bool true]) w := by kernel_rfl
@[go_sem] theorem as43_9 (v : Value) (w : World) : (Instr.typeAssert (.iface 43 v) 20 9 true).run Try.prog w = .ok (.tuple #[.string ByteArray.empty, .bool false]) w := by kernel_rfl
@[go_sem] theorem as43_39 (v : Value) (w : World) : (Instr.typeAssert (.iface 43 v) 20 39 true).run Try.prog w = .ok (.tuple #[.string ByteArray.empty, .bool false]) w := by kernel_rfl
@[go_sem] theorem as43_43 (v : Value) (w : World) : (Instr.typeAssert (.iface 43 v) 20 43 true).run Try.prog w = .ok (.tuple #[v, .bool true]) w := by kernel_rfl
theorem getD_eq {α : Type} (l : List α) (k : Nat) (d : α) (h : k < l.length) : l[k]? = some (l.getD k d) := by
  rw [List.getD_eq_getElem?_getD, List.getElem?_eq_getElem h]; rfl
theorem fold_take (its : List (Option Bs)) (k : Nat) (h : k < its.length) : (its.take (k + 1)).foldl PM.stepC [] = PM.stepC ((its.take k).foldl PM.stepC []) (its.getD k none) := by
  rw [List.take_add_one, getD_eq its k none h]
  simp [List.foldl_append]

theorem sum_le (l : List Nat) (k : Nat) (h : k < l.length) : (l.take k).sum + l.getD k 0 ≤ l.sum := by
  induction l generalizing k with
  | nil => simp at h
  | cons x l ih =>
    cases k with
    | zero => simp
    | succ k => have := ih k (by simpa using h); simp at this ⊢; omega
theorem sumLen_take (its : List (Option Bs)) (k : Nat) (h : k < its.length) : sumLen (its.take k) + ((its.getD k none).getD []).length ≤ sumLen its := by
  have := sum_le (its.map fun o => (o.getD []).length) k (by simpa using h)
  unfold sumLen
  rw [List.map_take]
  have e : (its.map fun o => (o.getD []).length).getD k 0 = ((its.getD k none).getD []).length := by
    simp [List.getD_eq_getElem?_getD, List.getElem?_eq_getElem h]
  omega
/-- no piece is longer than all that came -/
theorem lit_le (l : List (Option Bs)) : ∀ c ∈ l.foldl PM.stepC [], c.2.length ≤ sumLen l := by
  suffices h : ∀ (l : List (Option Bs)) (cs : List (Bool × Bs)) (m : Nat), (∀ c ∈ cs, c.2.length ≤ m) → ∀ c ∈ l.foldl PM.stepC cs, c.2.length ≤ m + sumLen l by
    intro c hc
    have := h l [] 0 (by simp) c hc
    omega
  intro l
  induction l with
  | nil => intro cs m h c hc; have := h c hc; simp [sumLen]; omega
  | cons o l ih =>
    intro cs m h c hc
    have e : sumLen (o :: l) = (o.getD []).length + sumLen l := by simp [sumLen]
    have := ih (PM.stepC cs o) (m + (o.getD []).length) ?_ c hc
    · omega
    · intro c hc
      cases o with
      | none =>
        simp only [PM.stepC] at hc
        split at hc
        · rcases List.mem_append.1 hc with hc | hc
          · have := h c hc; omega
          · simp at hc; subst hc; simp
        · have := h c hc; omega
      | some v =>
        simp only [PM.stepC] at hc
        split at hc
        · simp at hc; subst hc; simp
        · rename_i hne
          rcases List.mem_append.1 hc with hc | hc
          · have := h c (List.dropLast_subset _ hc); omega
          · simp at hc
            subst hc
            obtain ⟨cs0, cl, rfl⟩ : ∃ cs0 cl, cs = cs0 ++ [cl] := ⟨cs.dropLast, cs.getLast hne, (List.dropLast_concat_getLast hne).symm⟩
            have := h cl (by simp)
            simp at this ⊢
            omega

theorem stepC_len (cs : List (Bool × Bs)) (o : Option Bs) : (PM.stepC cs o).length ≤ cs.length + 1 := by
  cases o with
  | none => simp only [PM.stepC]; split <;> simp
  | some v =>
    simp only [PM.stepC]
    split
    · simp
    · simp
theorem fold_len (l : List (Option Bs)) : (l.foldl PM.stepC []).length ≤ l.length := by
  suffices h : ∀ (l : List (Option Bs)) (cs : List (Bool × Bs)), (l.foldl PM.stepC cs).length ≤ cs.length + l.length by simpa using h l []
  intro l
  induction l with
  | nil => intro cs; simp
  | cons o l ih => intro cs; have := ih (PM.stepC cs o); have := stepC_len cs o; simp at *; omega

/-- how the relation of NewPattern's loop reads -/
structure NewRel (w : World) (its : List (Option Bs)) (k : Nat) (cs : List (Bool × Bs)) (v3 : Value) (wr : World) : Prop where
  fold : cs = (its.take k).foldl PM.stepC []
  own : wr.ownsRow (w.heap.size + 1) 46 2 v3 cs.length (flat cs)
  bel : Below w.heap.size w wr
  res : wr.heap[w.heap.size]? = some (.cells #[.slice none 0 0] 36 (0, 0))
  nil : cs = [] → v3 = .slice none 0 0

theorem ownsRow_base {w : World} {base base' : Nat} {e : TypeId} {size : Nat} {v : Value} {n : Nat} {xs : List Value} (h : w.ownsRow base e size v n xs) (hb : base' ≤ base) : w.ownsRow base' e size v n xs := by
  obtain ⟨h1, h2⟩ := h
  refine ⟨h1, ?_⟩
  rcases h2 with h2 | ⟨g, cap, cur, hv, hg, r⟩
  · exact .inl h2
  · exact .inr ⟨g, cap, cur, hv, by omega, r⟩
section
variable {w wr : World} {its : List (Option Bs)} {k : Nat}
theorem rel_first {s : Bs} {v3 : Value} (h : NewRel w its k [] v3 wr) (hf : (its.take (k + 1)).foldl PM.stepC [] = PM.stepC ((its.take k).foldl PM.stepC []) (its.getD k none)) (hi : its.getD k none = some s) :
    NewRel w its (k + 1) [(false, s)] (.slice (some ⟨wr.heap.size, 0, none⟩) 1 1) (wr.alloc (.cells #[.bool false, .string ({ data := #[] } ++ { data := s.toArray })] 46)) := by
  have hlt := lt_of_block h.res
  refine ⟨?_, ?_, h.bel.alloc (by omega) _, ?_, by simp⟩
  · rw [hf, hi, ← h.fold]; rfl
  · have := World.ownsRow_lit (base := w.heap.size + 1) (e := 46) (size := 2) wr #[.bool false, .string ({ data := #[] } ++ { data := s.toArray })] 1 (by omega) (by decide) rfl
    have e : ({ data := #[] } ++ { data := s.toArray } : ByteArray) = { data := s.toArray } := ByteArray.mk_append_mk [] s
    rw [e] at this ⊢
    exact this
  · rw [Below.heap_alloc _ _ _ hlt]; exact h.res
theorem rel_more {s : Bs} {g cap : Nat} {cs0 : List (Bool × Bs)} {cl : Bool × Bs} {m : Nat} (h : NewRel w its k (cs0 ++ [cl]) (.slice (some ⟨g, 0, none⟩) m cap) wr) (hf : (its.take (k + 1)).foldl PM.stepC [] = PM.stepC ((its.take k).foldl PM.stepC []) (its.getD k none)) (hi : its.getD k none = some s) :
    NewRel w its (k + 1) (cs0 ++ [(cl.1, cl.2 ++ s)]) (.slice (some ⟨g, 0, none⟩) m cap) (wr.setCell ⟨g, cs0.length * 2 + 1, none⟩ (.string ({ data := cl.2.toArray } ++ { data := s.toArray }))) := by
  have hlt := lt_of_block h.res
  have hown := h.own
  obtain ⟨hl0, ⟨h0, _⟩ | ⟨g', cap', cur, hv, hg, hrest⟩⟩ := hown
  · cases h0
  simp only [Value.slice.injEq, Option.some.injEq, Addr.mk.injEq, and_true] at hv
  obtain ⟨rfl, rfl, rfl⟩ := hv
  refine ⟨?_, ?_, h.bel.setCell (by show w.heap.size ≤ g; omega) _, ?_, by simp⟩
  · rw [hf, hi, ← h.fold]
    simp [PM.stepC]
  · have := (h.own.stored (cs0.length * 2 + 1) (.string ({ data := cl.2.toArray } ++ { data := s.toArray }))).1
    rw [ByteArray.mk_append_mk] at this ⊢
    rw [flat_set] at this
    simpa using this
  · rw [Below.heap_setCell _ _ _ _ (by show w.heap.size ≠ g; omega)]; exact h.res
theorem rel_skip {g cap : Nat} {cs0 : List (Bool × Bs)} {cl : Bool × Bs} (h : NewRel w its k (cs0 ++ [cl]) (.slice (some ⟨g, 0, none⟩) (cs0 ++ [cl]).length cap) wr) (hf : (its.take (k + 1)).foldl PM.stepC [] = PM.stepC ((its.take k).foldl PM.stepC []) (its.getD k none)) (hi : its.getD k none = none) (he : cl.2 = []) :
    NewRel w its (k + 1) (cs0 ++ [cl]) (.slice (some ⟨g, 0, none⟩) (cs0.length + 1) cap) (wr.alloc (.cells #[] 43)) := by
  have hlt := lt_of_block h.res
  refine ⟨?_, ?_, h.bel.alloc (by omega) _, ?_, by simp⟩
  · rw [hf, hi, ← h.fold]
    simp [PM.stepC, he]
  · have := h.own.alloc (.cells #[] 43)
    simpa using this
  · rw [Below.heap_alloc _ _ _ hlt]; exact h.res
theorem new_cells {w : World} : ∀ (j : Nat) (u : Value), ([Value.bool true, Value.string { data := #[] }] : List Value)[j]? = some u →
    ((w.alloc (Obj.cells #[] 43)).alloc (Obj.cells #[Value.bool true, Value.string { data := #[] }] 46)).cell? { block := w.heap.size + 1, off := j } = some u := by
  intro j u hu
  have hs : (w.alloc (Obj.cells #[] 43)).heap.size = w.heap.size + 1 := by simp
  have hh := heap_alloc_new (w.alloc (Obj.cells #[] 43)) (Obj.cells #[Value.bool true, Value.string { data := #[] }] 46)
  rw [hs] at hh
  rw [cell_of_row _ _ _ _ _ _ hh]
  simpa using hu
theorem rel_app {cs : List (Bool × Bs)} {v3 v' : Value} {w1 : World} (h : NewRel w its k cs v3 wr) (hf : (its.take (k + 1)).foldl PM.stepC [] = PM.stepC ((its.take k).foldl PM.stepC []) (its.getD k none)) (hi : its.getD k none = none)
    (hc : cs = [] ∨ (cs.getLastD (false, [])).2 ≠ [])
    (ho : w1.ownsRow (w.heap.size + 1) 46 2 v' (cs.length + 1) (flat cs ++ [.bool true, .string ⟨#[]⟩]))
    (hg : ((wr.alloc (.cells #[] 43)).alloc (.cells #[.bool true, .string ⟨#[]⟩] 46)).grownBy w1 v3.ownBlock) :
    NewRel w its (k + 1) (cs ++ [(true, [])]) v' w1 := by
  have hlt := lt_of_block h.res
  have hol := h.own.lt
  refine ⟨?_, ?_, ((h.bel.alloc (by omega) _).alloc (by simp; omega) _).grown hg (by simp; omega) (fun j hj => by have := (hol j hj).1; omega), ?_, by simp⟩
  · rw [hf, hi, ← h.fold]
    simp only [PM.stepC]
    rw [if_pos hc]
  · rw [flat_append]
    simpa [flat] using ho
  · rw [hg.block _ (by simp; omega) (fun e => by have := (hol _ e.symm).1; omega), Below.heap_alloc _ _ _ (by simp; omega), Below.heap_alloc _ _ _ hlt]
    exact h.res
end

set_option maxHeartbeats 1000000 in
theorem new18 (v : Value) (its : List (Option Bs)) (w : World) (hv : ItemsAt w v its) (hlen : its.length ≤ 1000000) (hsum : sumLen its ≤ 1000000) :
    Calls Try.prog 18 #[v] w (PatEnd w.heap.size w (its.foldl PM.stepC [])) := by
  obtain ⟨a, c, rfl, hl⟩ := hv
  rcases hl with rfl | ⟨b, rfl, hb, hc⟩
  · go_enter Try.func18, Try.ntmps18
    go_wp2
    refine wp_loop_rounds 1 ?_
    rw [rounds_succ]
    go_wp2
    refine bodyPost_ret (v := .agg #[.slice none 0 0]) (by simp [results, Try.results18, go_sem]) rfl ?_
    exact ⟨_, rfl, World.ownsRow_nil _ _ _ _, (Below.refl _ _).alloc (Nat.le_refl _) _⟩
  · have HC := Lib.hid hc
    have HS := Lib.hid hsum
    clear hc hsum
    go_enter Try.func18, Try.ntmps18
    go_wp2
    go_loopw [3, 12] (fun v3 i wr => ∃ k : Nat, ∃ cs, k ≤ its.length ∧ i = .int .i64 k ∧ NewRel w its k cs v3 wr) (fun _ i _ => its.length - (intOf i).toNat)
    case atStart => exact ⟨0, [], Nat.zero_le _, rfl, ⟨rfl, World.ownsRow_nil _ _ _ _, (Below.refl _ _).alloc (Nat.le_refl _) _, heap_alloc_new _ _, fun _ => rfl⟩⟩
    case round =>
      obtain ⟨k, cs, hk, rfl, hr⟩ := hrel
      have hres := cell_of_one hr.res
      have hresf := free_of_one hr.res
      have hsz : w.heap.size < wr.heap.size := lt_of_block hr.res
      by_cases hlt : k < its.length
      · have hcell := (hr.bel.cell (p := ⟨b, k, none⟩) hb).trans (HC.out k hlt)
        have HF := Lib.hid (fold_take its k hlt)
        have hsl := sumLen_take its k hlt
        have hll := lit_le (its.take k)
        have hln := fold_len (its.take k)
        rw [← hr.fold] at hll hln
        rw [List.length_take_of_le (by omega)] at hln
        have HR := Lib.hid hr
        have hsum := HS.out
        clear hr
        have hcs : cs = [] ∨ ∃ cs0 cl, cs = cs0 ++ [cl] := by
          by_cases h : cs = []
          · exact .inl h
          · exact .inr ⟨cs.dropLast, cs.getLast h, (List.dropLast_concat_getLast h).symm⟩
        cases hit : its.getD k none with
        | some s =>
          rw [hit] at hcell hsl
          simp only [itemV] at hcell
          have HIT := Lib.hid hit
          clear hit
          have hs1 : s.length ≤ 1000000 := by simp at hsl; omega
          rcases hcs with rfl | ⟨cs0, cl, rfl⟩
          · obtain rfl := HR.out.nil rfl
            · clear hsum hsl hll hln
              go_wp2
              refine ⟨⟨k + 1, _, by omega, by go_num, rel_first HR.out HF.out HIT.out⟩, by simp [intOf]; omega⟩
          · have hown := HR.out.own
            obtain ⟨_, ⟨_, h0⟩ | ⟨g, cap, cur, rfl, hg, hh, h1, h2, h3, h4⟩⟩ := hown
            · simp at h0
            · have hcl := hll cl (by simp)
              have hc1 : wr.cell? ⟨g, cs0.length * 2 + 1, none⟩ = some (.string ⟨cl.2.toArray⟩) := by
                rw [HR.out.own.cellAt _ (by simp; omega)]
                have := flat_get1 (cs0 ++ [cl]) cs0.length (by simp)
                simpa using this
              have hf1 : wr.frozen? ⟨g, cs0.length * 2 + 1, none⟩ = false := HR.out.own.frozenAt _
              have hn1 : cs0.length ≤ 1000000 := by simp at hln; omega
              have hcl1 : cl.2.length + s.length ≤ 2000000 := by simp at hsl; omega
              clear hsum hsl hll hcl hln hg hh h1 h2 h3 h4
              go_wp2
              refine ⟨⟨k + 1, _, by omega, by go_num, rel_more HR.out HF.out HIT.out⟩, by simp [intOf]; omega⟩
        | none =>
          rw [hit] at hcell
          simp only [itemV] at hcell
          have HIT := Lib.hid hit
          clear hit
          rcases hcs with rfl | ⟨cs0, cl, rfl⟩
          · obtain rfl := HR.out.nil rfl
            · clear hsum hsl hll hln
              have HO := Lib.hid ((HR.out.own.alloc (.cells #[] 43)).alloc (.cells #[.bool true, .string ⟨#[]⟩] 46))
              go_wp2_with (at_builtin; refine wpList_append_one _ rfl (.tmp 72) (.tmp 74) 34 rfl (w.heap.size + 1) 46 _ 2 24 Try.underlying34 info46 rfl (by decide) _ _ _ rfl HO.out (wr.heap.size + 1) [.bool true, .string ⟨#[]⟩] rfl rfl ?c1 ?c2 ?c3 ?c4 ?c5 ?_)
              case c1 => exact new_cells
              case c2 => simp [Value.oneCell']
              case c3 => unfold maxLen; simp
              case c4 => simp
              case c5 => simp; omega
              intro v' w1 hown1 hg1
              have HG := Lib.hid hg1
              clear hg1
              go_wp2_with fail
              refine ⟨⟨k + 1, _, by omega, by go_num, rel_app HR.out HF.out HIT.out (.inl rfl) (by simpa using hown1) (by simpa using HG.out)⟩, by simp [intOf]; omega⟩
          · have hown := HR.out.own
            obtain ⟨_, ⟨_, h0⟩ | ⟨g, cap, cur, rfl, hg, hh, h1, h2, h3, h4⟩⟩ := hown
            · simp at h0
            · have hc1 : wr.cell? ⟨g, cs0.length * 2 + 1, none⟩ = some (.string ⟨cl.2.toArray⟩) := by
                rw [HR.out.own.cellAt _ (by simp; omega)]
                have := flat_get1 (cs0 ++ [cl]) cs0.length (by simp)
                simpa using this
              have hn1 : cs0.length ≤ 1000000 := by simp at hln; omega
              have hgl : g < wr.heap.size := lt_of_block hh
              clear hsum hsl hll hln hg hh h1 h2 h3 h4
              by_cases he : cl.2 = []
              · rw [he] at hc1
                have HE := Lib.hid he
                clear he
                go_wp2_with fail
                refine ⟨⟨k + 1, _, by omega, by go_num, rel_skip HR.out HF.out HIT.out HE.out⟩, by simp [intOf]; omega⟩
              · have HE := Lib.hid he
                clear he
                have hem : cl.2.isEmpty = false := by simpa using HE.out
                have heb : (cl.2 == []) = false := by simpa using HE.out
                have hown' : ((wr.alloc (.cells #[] 43)).alloc (.cells #[.bool true, .string ⟨#[]⟩] 46)).ownsRow (w.heap.size + 1) 46 2 (.slice (some ⟨g, 0, none⟩) (cs0.length + 1) cap) (cs0.length + 1) (flat (cs0 ++ [cl])) := by
                  have := (HR.out.own.alloc (.cells #[] 43)).alloc (.cells #[.bool true, .string ⟨#[]⟩] 46)
                  simpa using this
                have HO := Lib.hid hown'
                clear hown'
                go_wp2_with (at_builtin; refine wpList_append_one _ rfl (.tmp 72) (.tmp 74) 34 rfl (w.heap.size + 1) 46 _ 2 24 Try.underlying34 info46 rfl (by decide) _ _ _ rfl HO.out (wr.heap.size + 1) [.bool true, .string ⟨#[]⟩] rfl rfl ?c1 ?c2 ?c3 ?c4 ?c5 ?_)
                case c1 => exact new_cells
                case c2 => simp [Value.oneCell']
                case c3 => unfold maxLen; omega
                case c4 => omega
                case c5 => simp; omega
                intro v' w1 hown1 hg1
                have HG := Lib.hid hg1
                clear hg1
                go_wp2_with fail
                refine ⟨⟨k + 1, _, by omega, by go_num, rel_app HR.out HF.out HIT.out (.inr (by simpa using HE.out)) (by simpa using hown1) (by simpa using HG.out)⟩, by simp [intOf]; omega⟩
      · have hex : ∃ a n c, u3 = .slice a n c := by
          rcases hr.own.2 with ⟨h, _⟩ | ⟨g, cap, cur, h, _⟩
          · exact ⟨_, _, _, h⟩
          · exact ⟨_, _, _, h⟩
        obtain ⟨a3, n3, c3, rfl⟩ := hex
        have HR := Lib.hid hr
        clear hr
        go_wp2
        have hcf := cell_of_one (one_setCell (u := .slice a3 n3 c3) HR.out.res)
        refine bodyPost_ret (v := .agg #[.slice a3 n3 c3]) (by simp [results, Try.results18, go_sem, hcf]) rfl ?_
        have hkk : its.take k = its := List.take_of_length_le (by omega)
        have hfold := HR.out.fold
        rw [hkk] at hfold
        subst hfold
        refine ⟨_, rfl, ?_, HR.out.bel.setCell (Nat.le_refl _) _⟩
        refine ownsRow_base (ownsRow_setCell_other HR.out.own ?_ _) (by omega)
        intro e
        have := (HR.out.own.lt _ e).1
        simp at this
        omega
end Go.Proofs.Ythbdcekcockhfaa.Pat
