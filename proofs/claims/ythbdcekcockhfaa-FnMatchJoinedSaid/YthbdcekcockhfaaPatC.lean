/-
  WALKS of the pattern functions, third part: from the components that come in to the pattern: NewPattern (18).
-/
import Derived.Test.YthbdcekcockhfaaPatB
namespace Go.Proofs.Ythbdcekcockhfaa.Pat
open Go.RowKit

theorem info46 : (Try.prog.info? 46).map (fun i => (i.zero, i.size, i.bytes)) = some (some (.agg #[.bool false, .string ⟨#[]⟩]), 2, 24) := by kernel_rfl
theorem info20 : (Try.prog.info? 20).map (fun i => (i.zero, i.size, i.bytes)) = some (some .nilIface, 1, 16) := by kernel_rfl

/-- 'append(xs, y)', xs nil or the call's own, y in a row of one element that was just laid. -/
theorem wpList_append_one {P : Program} (w : World) {ops : Array Oper} {rest : List Oper} {o : Oper} {a : Act} {Q : Exit → Act → World → Prop} (hgd : o.guard = none) (s x : Operand) (t : TypeId)
    (ho : o.op = .call { callee := .builtin .append, args := #[s, x], argTypes := #[t, t] })
    (base : Nat) (e : TypeId) (z : Value) (size bytes : Nat) (ht : P.underlying t = some (.slice e)) (hinfo : (P.info? e).map (fun i => (i.zero, i.size, i.bytes)) = some (some z, size, bytes)) (hzs : z.cells.size = size) (hsz : 0 < size)
    (v : Value) (n : Nat) (xs : List Value) (hs : a.eval s = v) (hown : w.ownsRow base e size v n xs)
    (g : Nat) (news : List Value) (hx : a.eval x = .slice (some ⟨g, 0, none⟩) 1 1) (hl : news.length = size) (hnews : ∀ j u, news[j]? = some u → w.cell? ⟨g, j, none⟩ = some u) (h1 : ∀ u ∈ news, u.oneCell' = true)
    (h63 : n + 1 ≤ maxLen) (hbytes : (n + 1) * bytes ≤ 140737488355328) (hbase : base ≤ w.heap.size)
    (h : ∀ v' w', w'.ownsRow base e size v' (n + 1) (xs ++ news) → w.grownBy w' v.ownBlock → wpList P ops Q rest (a.put o.dst v') w') : wpList P ops Q (o :: rest) a w := by
  obtain ⟨i, hi, hz, hsize, hby⟩ := info_parts hinfo
  refine wpList_append_own w hgd s x t ho base e i z size bytes ht hi hz hsize hby hzs hsz v n xs hs hown ⟨g, 0, none⟩ 1 1 news hx (by omega) ?_ h1 h63 hbytes hbase (fun v' w' h2 h3 _ => h v' w' h2 h3)
  intro j u hu
  have := hnews j u hu
  rw [Addr.add_lit]
  simpa using this
end Go.Proofs.Ythbdcekcockhfaa.Pat
