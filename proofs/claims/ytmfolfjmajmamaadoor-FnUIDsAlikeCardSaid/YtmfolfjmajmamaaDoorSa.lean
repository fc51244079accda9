/-
  FnUIDStepsList: the sets of identifiers: what a set holds, as a list (plain Lean over the map's datum).
-/
import Derived.Test.YtmfolfjmajmamaaDoorChecked
import Derived.Maps.OwnSet
import Derived.DeepKeys4
import Derived.KernelRfl
namespace Go.Proofs.YtmfolfjmajmamaaDoor.Ss
open Go.RowKit Go.Maps

theorem laidOut : laidOutB Tryd.prog = true := by kernel_rfl
theorem row46 : (46 : TypeId) < Tryd.prog.types.size := of_decide_eq_true (by kernel_rfl)
theorem wide46 : (match Tryd.prog.underlying 46 with | some (.array _ _) | some (.struct _) => true | _ => false) = true := by rw [Tryd.underlying46]
theorem law46 : Keyed Tryd.prog 46 := Keyed.of_law (deep_law_laid laidOut (m := 3) (by omega) row46 (by kernel_rfl) wide46)
theorem kt46 : Tryd.prog.keyType 46 = true := by kernel_rfl
theorem cells46 : Tryd.prog.cellsOf 46 = 2 := by kernel_rfl
theorem zero56 (w : World) : (zeroValue 56).run Tryd.prog w = .ok (.agg #[]) w := by kernel_rfl

theorem size_types : Tryd.prog.types.size = 80 := by kernel_rfl
theorem lits43 (d : Nat) (a : ByteArray) (ha : a.size ≤ maxLen) : Tryd.prog.keyLits (d + 1) 43 [.string a] = some [.string a.data.toList] := by
  unfold Program.keyLits; rw [Tryd.underlying43]; simp only [ha, if_true]
theorem lits44 (d : Nat) (a : ByteArray) (ha : a.size ≤ maxLen) : Tryd.prog.keyLits (d + 1) 44 [.string a] = some [.string a.data.toList] := by
  unfold Program.keyLits; rw [Tryd.underlying44]; simp only [ha, if_true]
theorem lits46 (d : Nat) (a b : ByteArray) (ha : a.size ≤ maxLen) (hb : b.size ≤ maxLen) : Tryd.prog.keyLits (d + 2) 46 [.string a, .string b] = some [.string a.data.toList, .string b.data.toList] := by
  have h43 : Tryd.prog.cellsOf 43 = 1 := by kernel_rfl
  have h44 : Tryd.prog.cellsOf 44 = 1 := by kernel_rfl
  have l3 := lits43 d a ha
  have l4 := lits44 d b hb
  unfold Program.keyLits; rw [Tryd.underlying46]
  simp [cells46, h43, h44, l3, l4]

theorem key_some (a b : ByteArray) (ha : a.size ≤ maxLen) (hb : b.size ≤ maxLen) : keyOf Tryd.prog 46 (.agg #[.string a, .string b]) = some (.string (keyBytes [.string a.data.toList, .string b.data.toList])) := by
  have hf : (Value.agg #[.string a, .string b]).formed Tryd.prog 46 = true := by simp [Value.formed, Tryd.underlying46, cells46]
  unfold keyOf
  rw [Tryd.underlying46]
  simp only [kt46, hf, Bool.and_self, if_true, size_types]
  show Option.map _ (Tryd.prog.keyLits (79 + 2) 46 [.string a, .string b]) = _
  rw [lits46 79 a b ha hb]
  rfl

/-! ### an identifier as a key -/
structure K where
  t : ByteArray
  i : ByteArray
instance : DecidableEq K := fun x y => if h : x.t = y.t ∧ x.i = y.i then .isTrue (by cases x; cases y; simp_all) else .isFalse (fun e => h (by subst e; exact ⟨rfl, rfl⟩))
def small (x : K) : Prop := x.t.size ≤ maxLen ∧ x.i.size ≤ maxLen
def kv (x : K) : Value := .agg #[.string x.t, .string x.i]
def kl (x : K) : Lit := .string (keyBytes [.string x.t.data.toList, .string x.i.data.toList])
theorem key_of (x : K) (h : small x) : keyOf Tryd.prog 46 (kv x) = some (kl x) := key_some x.t x.i h.1 h.2
theorem kl_key (x : K) (h : small x) : WideAt.IsKeyLit (kl x) := law46.key (key_of x h)
theorem kv_inj {x y : K} (h : kv x = kv y) : x = y := by
  obtain ⟨a, b⟩ := x
  obtain ⟨c, d⟩ := y
  simp [kv] at h
  simp [h]
theorem kl_ne {x y : K} (hx : small x) (hy : small y) (h : x ≠ y) : kl x ≠ kl y := fun e =>
  h (kv_inj (law46.inj (key_of x hx) (by rw [e]; exact key_of y hy)))

/-- the map's datum holds just what the list holds -/
structure Rep (D : DataW Unit) (h : List K) : Prop where
  nd : h.Nodup
  sm : ∀ x ∈ h, small x
  has : ∀ x, small x → Maps.has D (kl x) = decide (x ∈ h)
  size : Maps.size D = h.length

theorem Rep.nil : Rep (.map []) [] := ⟨List.nodup_nil, by simp, fun x _ => by simp [Maps.has], rfl⟩

theorem Rep.put {D : DataW Unit} {h : List K} (R : Rep D h) (T : Maps.Tidy D) {x : K} (hx : small x) (hn : x ∉ h) (u : DataW Unit) : Rep (D.put (kl x) u) (h ++ [x]) := by
  have h0 : Maps.has D (kl x) = false := by rw [R.has x hx]; simp [hn]
  refine ⟨?_, ?_, ?_, ?_⟩
  · refine List.nodup_append.2 ⟨R.nd, by simp, ?_⟩
    intro a ha b hb e
    simp at hb
    subst hb
    subst e
    exact hn ha
  · intro y hy
    rcases List.mem_append.1 hy with h1 | h1
    · exact R.sm y h1
    · simp at h1; subst h1; exact hx
  · intro y hy
    by_cases e : y = x
    · subst e
      rw [Maps.has_put_same T.isMap (kl_key y hx)]
      simp
    · rw [Maps.has_put_other (kl_ne hy hx e), R.has y hy]
      simp [e]
  · rw [Maps.size_put T, h0, R.size]
    simp

theorem Rep.del {D : DataW Unit} {h : List K} (R : Rep D h) (T : Maps.Tidy D) {x : K} (hx : small x) : Rep (D.del (kl x)) (h.erase x) := by
  refine ⟨R.nd.erase x, fun y hy => R.sm y (List.mem_of_mem_erase hy), ?_, ?_⟩
  · intro y hy
    by_cases e : y = x
    · subst e
      rw [Maps.has_del_same]
      simp [R.nd.mem_erase_iff]
    · rw [Maps.has_del_other (kl_ne hy hx e), R.has y hy]
      simp [R.nd.mem_erase_iff, e]
  · have := Maps.size_del (k := kl x) T
    rw [R.has x hx] at this
    by_cases hm : x ∈ h
    · simp [hm] at this
      rw [List.length_erase_of_mem hm]
      have := R.size
      omega
    · simp [hm] at this
      rw [List.erase_of_not_mem hm, this, R.size]

/-! ### the steps, over a list without doubles -/
def stepL (h : List K) (k : Int) (x : K) : List K × Int :=
  if k = 0 then (if x ∈ h then (h, 0) else (h ++ [x], 1))
  else if k = 1 then (if x ∈ h then (h.erase x, 1) else (h, 0))
  else if k = 2 then (h, if x ∈ h then 1 else 0)
  else if k = 3 then (h, h.length)
  else (h, 0)

/-- the list behind the first k steps, and what each step returns -/
def heldAt (kd : Nat → Int) (id : Nat → K) : Nat → List K
  | 0 => []
  | k + 1 => (stepL (heldAt kd id k) (kd k) (id k)).1
def outAt (kd : Nat → Int) (id : Nat → K) (k : Nat) : Int := (stepL (heldAt kd id k) (kd k) (id k)).2

theorem heldAt_length (kd : Nat → Int) (id : Nat → K) : ∀ k, (heldAt kd id k).length ≤ k
  | 0 => Nat.le_refl _
  | k + 1 => by
    have := heldAt_length kd id k
    simp only [heldAt, stepL]
    split
    · split <;> simp <;> omega
    · split
      · split
        · have := List.length_erase_le (a := id k) (l := heldAt kd id k); simp; omega
        · simp; omega
      · split
        · simp; omega
        · split <;> simp <;> omega
end Go.Proofs.YtmfolfjmajmamaaDoor.Ss
