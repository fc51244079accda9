/-
  WALKS of the package's reader of durations, first part: its two tables (16, 17), and its error.
-/
import Derived.Test.YthbdcekcockhfaaDoorD
import Derived.Maps.Own
import Derived.Maps.OwnOps
namespace Go.Proofs.YthbdcekcockhfaaDoor.Dur
open Go.RowKit Go.ChangeMaps
open Go.Maps (Keyed)

/-- an entry of a map's literal, at the operation -/
theorem wpList_insert_own {H : Type} {P : Program} (w : World) {ops : Array Oper} {rest : List Oper} {o : Oper} {a : Act} {Q : Exit → Act → World → Prop}
    (hg : o.guard = none) (m x v : Operand) (t : TypeId) (hop : o.op = Op.insert t m x v)
    (k e : TypeId) (K : Keyed P k) (ht : P.underlying t = some (.map k e)) (R : Value → Option (DataW H × List MemPlace)) (b n : Nat) (D : DataW H)
    (hm : a.eval m = .map (some b)) (hown : w.ownsMap P k R b n D) (hn : n < maxLen) (key val : Value) (kl : Lit) (hx : a.eval x = key) (hv : a.eval v = val) (hkey : keyOf P k key = some kl)
    (d : DataW H) (ps : List MemPlace) (hval : R val = some (d, ps))
    (hK : ∀ w', w'.ownsMap P k R b (n + 1) (D.put kl d) → w.grownBy w' (some b) → wpList P ops Q rest (a.put o.dst undef) w') :
    wpList P ops Q (o :: rest) a w := by
  refine wpList_plain hg fun K' hK' => ?_
  obtain ⟨w', hrun, r1, r2⟩ := hown.update K ht hn hkey hval
  unfold Oper.wp
  simp [execOp, hop, hm, hx, hv, hrun, Result.andThen]
  exact hK' _ _ (hK w' r1 r2)

def uname : Nat → ByteArray
  | 0 => ⟨#[100]⟩ | 1 => ⟨#[104]⟩ | 2 => ⟨#[109]⟩ | 3 => ⟨#[115]⟩ | _ => ⟨#[109, 115]⟩

/-- the five units' names, as the package lays them -/
theorem order16 (w : World) : Calls Tryd.prog 16 #[] w fun e w' => e = .returned (.slice (some ⟨w.heap.size, 0, none⟩) 5 5) ∧ Below w.heap.size w w' ∧ ∀ u, u < 5 → w'.cell? ⟨w.heap.size, u, none⟩ = some (.string (uname u)) := by
  go_enter Tryd.func16, Tryd.ntmps16
  go_wp2
  go_ret
  refine ⟨rfl, (Below.refl _ _).alloc (Nat.le_refl _) _, ?_⟩
  intro u hu
  rw [cell_of_row _ _ _ _ _ _ (heap_alloc_new w _)]
  match u, hu with
  | 0, _ => rfl
  | 1, _ => rfl
  | 2, _ => rfl
  | 3, _ => rfl
  | 4, _ => rfl

theorem keyed9 : Keyed Tryd.prog 9 := Maps.string_keyed Tryd.underlying9
/-- how many milliseconds the units have, as the package lays them -/
def sizes5 : DataW Unit := (((((DataW.map []).put (.string [100]) (.lit (.int .i64 86400000))).put (.string [104]) (.lit (.int .i64 3600000))).put (.string [109]) (.lit (.int .i64 60000))).put (.string [115]) (.lit (.int .i64 1000))).put (.string [109, 115]) (.lit (.int .i64 1))

theorem insert49 (w : World) {ops : Array Oper} {rest : List Oper} {o : Oper} {a : Act} {Q : Exit → Act → World → Prop} (hg : o.guard = none) (l : List UInt8) (z : Int)
    (hop : o.op = Op.insert 49 (.tmp 1) (.const (.string ⟨l.toArray⟩)) (.const (.int .i64 z))) (b n : Nat) (D : DataW Unit)
    (hm : a.eval (.tmp 1) = .map (some b)) (hown : w.ownsMap Tryd.prog 9 (plainElem (H := Unit) Tryd.prog 2) b n D) (hn : n < maxLen) (hl : l.length ≤ maxLen) (hz : (Lit.int .i64 z).wf = true)
    (hK : ∀ w', w'.ownsMap Tryd.prog 9 (plainElem (H := Unit) Tryd.prog 2) b (n + 1) (D.put (.string l) (.lit (.int .i64 z))) → w.grownBy w' (some b) → wpList Tryd.prog ops Q rest (a.put o.dst undef) w') :
    wpList Tryd.prog ops Q (o :: rest) a w :=
  wpList_insert_own w hg _ _ _ 49 hop 9 2 keyed9 Tryd.underlying49 _ b n D hm hown hn (.string ⟨l.toArray⟩) (.int .i64 z) (.string l) rfl rfl (Go.WideMaps.keyOf_string_mk Tryd.underlying9 (s := ⟨l.toArray⟩) hl) _ [] (plainElem_int Tryd.underlying2 hz) hK

theorem sizes17 (w : World) : Calls Tryd.prog 17 #[] w fun e w' => e = .returned (.map (some w.heap.size)) ∧ Below w.heap.size w w' ∧ w'.ownsMap Tryd.prog 9 (plainElem (H := Unit) Tryd.prog 2) w.heap.size 5 sizes5 := by
  go_enter Tryd.func17, Tryd.ntmps17
  have hmk := run_makeMap (P := Tryd.prog) 49 w
  have h0 := World.ownsMap_made w Tryd.prog 9 (plainElem (H := Unit) Tryd.prog 2)
  have hb0 := (Below.refl w.heap.size w).alloc (Nat.le_refl _) (.map #[] 0)
  go_wp2_with (first
    | (refine insert49 _ (by rfl) [100] 86400000 (by rfl) w.heap.size 0 _ (by rfl) h0 (by decide) (by decide) (by decide) ?_; intro w1 h1 g1; have hb1 := hb0.grown g1 hb0.size (fun k hk => by cases hk; exact Nat.le_refl _))
    | (refine insert49 _ (by rfl) [104] 3600000 (by rfl) w.heap.size 1 _ (by rfl) h1 (by decide) (by decide) (by decide) ?_; intro w2 h2 g2; have hb2 := hb1.grown g2 hb1.size (fun k hk => by cases hk; exact Nat.le_refl _))
    | (refine insert49 _ (by rfl) [109] 60000 (by rfl) w.heap.size 2 _ (by rfl) h2 (by decide) (by decide) (by decide) ?_; intro w3 h3 g3; have hb3 := hb2.grown g3 hb2.size (fun k hk => by cases hk; exact Nat.le_refl _))
    | (refine insert49 _ (by rfl) [115] 1000 (by rfl) w.heap.size 3 _ (by rfl) h3 (by decide) (by decide) (by decide) ?_; intro w4 h4 g4; have hb4 := hb3.grown g4 hb3.size (fun k hk => by cases hk; exact Nat.le_refl _))
    | (refine insert49 _ (by rfl) [109, 115] 1 (by rfl) w.heap.size 4 _ (by rfl) h4 (by decide) (by decide) (by decide) ?_; intro w5 h5 g5; have hb5 := hb4.grown g5 hb4.size (fun k hk => by cases hk; exact Nat.le_refl _)))
  go_ret
  exact ⟨rfl, hb5, h5⟩
end Go.Proofs.YthbdcekcockhfaaDoor.Dur
