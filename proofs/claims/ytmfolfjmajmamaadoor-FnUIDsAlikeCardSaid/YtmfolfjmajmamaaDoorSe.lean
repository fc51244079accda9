/-
  WALKS for FnUIDStepsList: impl.UIDSteps (7): for each step what the list without doubles returns. Printed by mkSe.py.
-/
import Derived.Test.YtmfolfjmajmamaaDoorSd
import Derived.Deep.RegionHeld3
import Derived.Deep.DeepCutAuto
namespace Go.Proofs.YtmfolfjmajmamaaDoor.Ss
open Go.RowKit Go.Maps

theorem info3 : (Tryd.prog.info? 3).map (fun i => (i.zero, i.size, i.bytes)) = some (some (.int .i64 0), 1, 8) := by kernel_rfl

/-- 'append(xs, y)', xs nil or the call's own, y in a row of one element that was just laid. -/
theorem wpList_append_one {P : Program} (w : World) {ops : Array Oper} {rest : List Oper} {o : Oper} {a : Act} {Q : Exit → Act → World → Prop} (hgd : o.guard = none) (s x : Operand) (t : TypeId)
    (ho : o.op = .call { callee := .builtin .append, args := #[s, x], argTypes := #[t, t] })
    (base : Nat) (e : TypeId) (z : Value) (size bytes : Nat) (ht : P.underlying t = some (.slice e)) (hinfo : (P.info? e).map (fun i => (i.zero, i.size, i.bytes)) = some (some z, size, bytes)) (hzs : z.cells.size = size) (hsz : 0 < size)
    (v : Value) (n : Nat) (xs : List Value) (hs : a.eval s = v) (hown : w.ownsRow base e size v n xs)
    (g : Nat) (news : List Value) (hx : a.eval x = .slice (some ⟨g, 0, none⟩) 1 1) (hl : news.length = size) (hnews : ∀ j u, news[j]? = some u → w.cell? ⟨g, j, none⟩ = some u) (h1 : ∀ u ∈ news, u.oneCell' = true)
    (h63 : n + 1 ≤ maxLen) (hbytes : (n + 1) * bytes ≤ 140737488355328) (hbase : base ≤ w.heap.size)
    (h : ∀ v' w', w'.ownsRow base e size v' (n + 1) (xs ++ news) → w.grownBy w' v.ownBlock → wpList P ops Q rest (a.put o.dst v') w') : wpList P ops Q (o :: rest) a w := by
  obtain ⟨i, hi, hz, hsize, hby⟩ := info_parts hinfo
  refine wpList_append_own w hgd s x t ho base e i z size bytes ht hi hz hsize hby hzs hsz v n xs hs hown ⟨g, 0, none⟩ 1 1 news hx (by omega) ?_ h1 h63 hbytes hbase (fun v' w' h2 h3 _ => h v' w' h2 h3)
  intro j u hu
  have := hnews j u hu
  rw [Addr.add_lit]
  simpa using this

/-- what the loop keeps: the set, the row of answers, all else below as it was -/
structure Kept (B b : Nat) (h : List K) (n : Nat) (v : Value) (xs : List Value) (w0 w : World) : Prop where
  set : SetAt B b h n w
  own : w.ownsRow B 3 1 v xs.length xs
  bel : Below B w0 w
  size : B < w.heap.size

theorem row_block {w : World} {B : Nat} {v : Value} {n : Nat} {xs : List Value} (hown : w.ownsRow B 3 1 v n xs) : ∀ c, v.ownBlock = some c → B ≤ c ∧ ∃ cs fz, w.heap[c]? = some (.cells cs 3 fz) := by
  intro c hc
  rcases hown.2 with ⟨rfl, _⟩ | ⟨g, cap, cur, rfl, hb, hg, _⟩
  · simp [Value.ownBlock] at hc
  · simp [Value.ownBlock] at hc
    subst hc
    exact ⟨hb, _, _, hg⟩

theorem Kept.none {B b n : Nat} {h : List K} {v : Value} {xs : List Value} {w0 w w' : World} (H : Kept B b h n v xs w0 w) (hg : w.grownBy w' none) : Kept B b h n v xs w0 w' :=
  ⟨H.set.kept0 hg, H.own.kept hg (by cases v.ownBlock <;> simp), H.bel.grown hg (Nat.le_of_lt H.size) (fun k e => by cases e), Nat.lt_of_lt_of_le H.size hg.size⟩

theorem Kept.turn {B b n n' : Nat} {h h' : List K} {v : Value} {xs : List Value} {w0 w w' : World} (H : Kept B b h n v xs w0 w) (hS : SetAt B b h' n' w') (hg : Grown B w w') : Kept B b h' n' v xs w0 w' := by
  obtain ⟨c, hg, hc, h3⟩ := hg
  refine ⟨hS, H.own.kept hg (.inr fun e => ?_), H.bel.grown hg (Nat.le_of_lt H.size) (fun k e => by cases e; exact hc), Nat.lt_of_lt_of_le H.size hg.size⟩
  obtain ⟨_, cs, fz, hcs⟩ := row_block H.own c e
  exact h3 cs fz hcs

theorem Kept.app {B b n : Nat} {h : List K} {v v' : Value} {xs : List Value} {w0 w w' : World} (H : Kept B b h n v xs w0 w) {y : Value} (hown : w'.ownsRow B 3 1 v' (xs.length + 1) (xs ++ [y])) (hg : w.grownBy w' v.ownBlock) : Kept B b h n v' (xs ++ [y]) w0 w' :=
  ⟨H.set.kept hg (fun c e => (row_block H.own c e).2), by simpa using hown, H.bel.grown hg (Nat.le_of_lt H.size) (fun k e => (row_block H.own k e).1), Nat.lt_of_lt_of_le H.size hg.size⟩

def outsV (kd : Nat → Int) (id : Nat → K) (k : Nat) : List Value := (List.range k).map fun j => .int .i64 (outAt kd id j)
theorem outsV_length (kd : Nat → Int) (id : Nat → K) (k : Nat) : (outsV kd id k).length = k := by simp [outsV]
theorem outsV_succ (kd : Nat → Int) (id : Nat → K) (k : Nat) : outsV kd id (k + 1) = outsV kd id k ++ [.int .i64 (outAt kd id k)] := by simp [outsV, List.range_succ]

/-- one round's end -/
theorem Kept.step {kd : Nat → Int} {id : Nat → K} {k : Nat} {B b : Nat} {v : Value} {w0 w : World} {h' : List K} {y : Int} (hstep : stepL (heldAt kd id k) (kd k) (id k) = (h', y))
    (H : Kept B b h' (k + 1) v (outsV kd id k ++ [.int .i64 y]) w0 w) : Kept B b (heldAt kd id (k + 1)) (k + 1) v (outsV kd id (k + 1)) w0 w := by
  rw [outsV_succ]
  have e1 : heldAt kd id (k + 1) = h' := by simp only [heldAt, hstep]
  have e2 : outAt kd id k = y := by simp only [outAt, hstep]
  rw [e1, e2]
  exact H
theorem Kept.more {B b n : Nat} {h : List K} {v : Value} {xs : List Value} {w0 w : World} (H : Kept B b h n v xs w0 w) : Kept B b h (n + 1) v xs w0 w := by
  refine ⟨⟨H.set.1, ?_⟩, H.own, H.bel, H.size⟩
  rcases H.set.2 with h | ⟨m, D, hm, hb, hown, R⟩
  · exact .inl h
  · exact .inr ⟨m, D, hm, hb, hown.mono (by omega), R⟩

theorem one_cell {w : World} {v : Value} {t : TypeId} : ∀ j u, [v][j]? = some u → (w.alloc (.cells #[v] t)).cell? ⟨w.heap.size, j, none⟩ = some u := by
  intro j u h
  match j, h with
  | 0, h =>
    simp at h
    subst h
    simp only [World.cell?]
    rw [heap_alloc_new w _]
    rfl
  | (j + 1), h => simp at h

section
variable {B b n : Nat} {h : List K} {v : Value} {xs : List Value} {w0 w : World} {s i : ByteArray}
theorem k_add_in (H : Kept B b h n v xs w0 w) (hx : small ⟨s, i⟩) (hn : n < maxLen) (hm : K.mk s i ∈ h) :
    Calls Tryd.prog 18 #[.pointer (some ⟨b, 0, none⟩), .agg #[.string s, .string i]] w fun e w' => e = .returned (.bool false) ∧ Kept B b h (n + 1) v xs w0 w' := by
  refine (set_add ⟨s, i⟩ hx H.set hn (Nat.le_of_lt H.size)).mono ?_
  rintro e w' ⟨rfl, hS, hG⟩
  rw [if_pos hm] at hS
  exact ⟨by simp [hm], H.turn hS hG⟩
theorem k_add_out (H : Kept B b h n v xs w0 w) (hx : small ⟨s, i⟩) (hn : n < maxLen) (hm : K.mk s i ∉ h) :
    Calls Tryd.prog 18 #[.pointer (some ⟨b, 0, none⟩), .agg #[.string s, .string i]] w fun e w' => e = .returned (.bool true) ∧ Kept B b (h ++ [⟨s, i⟩]) (n + 1) v xs w0 w' := by
  refine (set_add ⟨s, i⟩ hx H.set hn (Nat.le_of_lt H.size)).mono ?_
  rintro e w' ⟨rfl, hS, hG⟩
  rw [if_neg hm] at hS
  exact ⟨by simp [hm], H.turn hS hG⟩
theorem k_rem_in (H : Kept B b h n v xs w0 w) (hx : small ⟨s, i⟩) (_hn : n < maxLen) (hm : K.mk s i ∈ h) :
    Calls Tryd.prog 20 #[.pointer (some ⟨b, 0, none⟩), .agg #[.string s, .string i]] w fun e w' => e = .returned (.bool true) ∧ Kept B b (h.erase ⟨s, i⟩) (n + 1) v xs w0 w' := by
  refine (set_rem ⟨s, i⟩ hx H.set).mono ?_
  rintro e w' ⟨rfl, hS, hG⟩
  exact ⟨by simp [hm], (H.turn hS hG).more⟩
theorem k_rem_out (H : Kept B b h n v xs w0 w) (hx : small ⟨s, i⟩) (_hn : n < maxLen) (hm : K.mk s i ∉ h) :
    Calls Tryd.prog 20 #[.pointer (some ⟨b, 0, none⟩), .agg #[.string s, .string i]] w fun e w' => e = .returned (.bool false) ∧ Kept B b h (n + 1) v xs w0 w' := by
  refine (set_rem ⟨s, i⟩ hx H.set).mono ?_
  rintro e w' ⟨rfl, hS, hG⟩
  rw [List.erase_of_not_mem hm] at hS
  exact ⟨by simp [hm], (H.turn hS hG).more⟩
end

/-- the loop's relation -/
def Rel (kd : Nat → Int) (id : Nat → K) (n : Nat) (w : World) (v i : Value) (wr : World) : Prop :=
  ∃ k : Nat, k ≤ n ∧ i = .int .i64 k ∧ Kept w.heap.size w.heap.size (heldAt kd id k) k v (outsV kd id k) w wr

theorem start41 (w : World) : Kept w.heap.size w.heap.size [] 0 (.slice none 0 0) [] w (w.alloc (.cells #[.map none] 41)) :=
  ⟨⟨Nat.le_refl _, .inl ⟨heap_alloc_new w _, rfl⟩⟩, World.ownsRow_nil _ _ _ _, (Below.refl _ _).alloc (Nat.le_refl _) _, by simp⟩

/-- what the region that asks whether the set has an element reads -/
structure Held2 (x b : Nat) (mv : Value) (s i : ByteArray) (w0 w : World) : Prop where
  m : w.cell? ⟨b, 0, none⟩ = some mv
  t : w.cell? ⟨x, 1, none⟩ = some (.string s)
  i : w.cell? ⟨x, 2, none⟩ = some (.string i)
  grown : w0.grownBy w none

theorem grown_cell {w w' : World} (g : w.grownBy w' none) {a : Addr} {v : Value} (h : w.cell? a = some v) : w'.cell? a = some v := g.cell h (by simp)
theorem Held2.start {x b : Nat} {mv : Value} {s i : ByteArray} {w0 w : World} (h1 : w0.cell? ⟨b, 0, none⟩ = some mv) (h2 : w0.cell? ⟨x, 1, none⟩ = some (.string s)) (h3 : w0.cell? ⟨x, 2, none⟩ = some (.string i)) (g : w0.grownBy w none) : Held2 x b mv s i w0 w :=
  ⟨grown_cell g h1, grown_cell g h2, grown_cell g h3, g⟩
theorem Held2.next {x b : Nat} {mv : Value} {s i : ByteArray} {w0 w w' : World} (H : Held2 x b mv s i w0 w) (g : w.grownBy w' none) : Held2 x b mv s i w0 w' :=
  ⟨grown_cell g H.m, grown_cell g H.t, grown_cell g H.i, grown_trans H.grown g⟩
theorem held_next {x b : Nat} {mv : Value} {s i : ByteArray} {w0 w w' : World} (H : w.cell? ⟨b, 0, none⟩ = some mv ∧ w.cell? ⟨x, 1, none⟩ = some (.string s) ∧ w.cell? ⟨x, 2, none⟩ = some (.string i) ∧ w0.grownBy w none) (g : w.grownBy w' none) :
    w'.cell? ⟨b, 0, none⟩ = some mv ∧ w'.cell? ⟨x, 1, none⟩ = some (.string s) ∧ w'.cell? ⟨x, 2, none⟩ = some (.string i) ∧ w0.grownBy w' none :=
  ⟨grown_cell g H.1, grown_cell g H.2.1, grown_cell g H.2.2.1, grown_trans H.2.2.2 g⟩
theorem held_grown {p q r : Prop} {w0 w : World} (H : p ∧ q ∧ r ∧ w0.grownBy w none) : w0.grownBy w none := H.2.2.2

set_option maxRecDepth 100000 in
set_option maxHeartbeats 4000000 in
theorem steps7 (g off n c : Nat) (kd : Nat → Int) (id : Nat → K) (w : World) (hg : g < w.heap.size) (hn : n ≤ 200) (hs : StepsAt g off n kd id w) (hsm : ∀ k, k < n → small (id k)) :
    Calls Tryd.prog 7 #[.slice (some ⟨g, off, none⟩) n c] w fun e w' => ∃ v, e = .returned v ∧ w'.ownsRow w.heap.size 3 1 v n (outsV kd id n) ∧ Below w.heap.size w w' := by
  have UID := uid19
  simp only [kv] at UID
  go_enter Tryd.func7, Tryd.ntmps7
  go_wp2_with fail
  go_loopw [4, 11] (fun v i wr => Rel kd id n w v i wr) (fun _ i _ => n - (intOf i).toNat)
  case atStart => exact ⟨0, Nat.zero_le _, rfl, start41 w⟩
  case round =>
    obtain ⟨k, hk, rfl, hK⟩ := hrel
    rcases Nat.lt_or_ge k n with hlt | hge
    · obtain ⟨c0, c1, c2⟩ := hs k hlt
      have d0 := (hK.bel.cell (p := ⟨g, off + k * 3, none⟩) hg).trans c0
      have d1 := (hK.bel.cell (p := ⟨g, off + k * 3 + 1, none⟩) hg).trans c1
      have d2 := (hK.bel.cell (p := ⟨g, off + k * 3 + 2, none⟩) hg).trans c2
      have hsx := hsm k hlt
      clear c0 c1 c2
      obtain ⟨kk, hkk⟩ : ∃ y, kd k = y := ⟨_, rfl⟩
      obtain ⟨⟨s, i⟩, hid⟩ : ∃ y, id k = y := ⟨_, rfl⟩
      have hlt' : (k : Int) < (n : Int) := by omega
      have hmx : k < maxLen := by unfold maxLen; omega
      have hlen := outsV_length kd id k
      have hlk := heldAt_length kd id k
      rw [hkk] at d0
      rw [hid] at d1 d2 hsx
      simp only [] at d1 d2
      have HST : ∀ h' y, stepL (heldAt kd id k) kk ⟨s, i⟩ = (h', y) → stepL (heldAt kd id k) (kd k) (id k) = (h', y) := by rw [hkk, hid]; exact fun _ _ h => h
      obtain ⟨hl, hhl⟩ : ∃ l, heldAt kd id k = l := ⟨_, rfl⟩
      obtain ⟨xs, hxs⟩ : ∃ l, outsV kd id k = l := ⟨_, rfl⟩
      rw [hhl, hxs] at hK
      rw [hxs] at hlen
      rw [hhl] at HST hlk
      have HSTEP : ∀ h' (y : Int) (v' : Value) (w' : World), stepL hl kk ⟨s, i⟩ = (h', y) → Kept w.heap.size w.heap.size h' (k + 1) v' (xs ++ [.int .i64 y]) w w' → Kept w.heap.size w.heap.size (heldAt kd id (k + 1)) (k + 1) v' (outsV kd id (k + 1)) w w' := by
        intro h' y v' w' h1 h2
        rw [← hxs] at h2
        exact Kept.step (by rw [hhl]; exact HST h' y h1) h2
      have HS := Lib.hid HSTEP
      have HK := Lib.hid hK
      clear HSTEP HST hK hkk hid hhl hxs hsm hs
      by_cases h0 : kk = 0
      · subst h0
        by_cases hm : K.mk s i ∈ hl
        · go_wp2_with fail
          refine (UID ⟨s, i⟩ _).mono ?_
          rintro e w2 ⟨rfl, g2⟩
          have HK2 := Lib.hid ((HK.out.none (World.grownBy_alloc wr (.cells #[.int .i64 0, .string s, .string i] 31) none)).none g2)
          clear g2
          simp only []
          go_wp2_with fail
          refine (k_add_in HK2.out hsx hmx hm).mono ?_
          rintro e w3 ⟨rfl, hk3⟩
          have HK3 := Lib.hid hk3
          clear hk3
          simp only []

          have HX := Lib.hid (HK3.out.none (World.grownBy_alloc w3 (.cells #[.int .i64 0] 3) none))
          go_wp2_with (at_builtin; refine wpList_append_one _ rfl (.tmp 41) (.tmp 43) 24 rfl w.heap.size 3 _ 1 8 Tryd.underlying24 info3 rfl (by decide) _ _ _ rfl HX.out.own w3.heap.size [.int .i64 0] rfl rfl one_cell ?c2 ?c3 ?c4 ?c5 ?_)
          case c2 => intro u hu; simp at hu; subst hu; rfl
          case c3 => unfold maxLen; omega
          case c4 => omega
          case c5 => exact Nat.le_of_lt HX.out.size
          intro v' wz hownz hgz
          have HZ := Lib.hid (HX.out.app (by rw [hlen]; exact hownz) hgz)
          clear hownz hgz
          go_wp2_with fail
          go_roundw
          case rel => exact ⟨k + 1, by omega, by go_num, HS.out _ _ _ _ (by simp [stepL, hm]) HZ.out⟩
          case measure => simp [intOf]; omega
        · go_wp2_with fail
          refine (UID ⟨s, i⟩ _).mono ?_
          rintro e w2 ⟨rfl, g2⟩
          have HK2 := Lib.hid ((HK.out.none (World.grownBy_alloc wr (.cells #[.int .i64 0, .string s, .string i] 31) none)).none g2)
          clear g2
          simp only []
          go_wp2_with fail
          refine (k_add_out HK2.out hsx hmx hm).mono ?_
          rintro e w3 ⟨rfl, hk3⟩
          have HK3 := Lib.hid hk3
          clear hk3
          simp only []

          have HX := Lib.hid (HK3.out.none (World.grownBy_alloc w3 (.cells #[.int .i64 1] 3) none))
          go_wp2_with (at_builtin; refine wpList_append_one _ rfl (.tmp 41) (.tmp 43) 24 rfl w.heap.size 3 _ 1 8 Tryd.underlying24 info3 rfl (by decide) _ _ _ rfl HX.out.own w3.heap.size [.int .i64 1] rfl rfl one_cell ?c2 ?c3 ?c4 ?c5 ?_)
          case c2 => intro u hu; simp at hu; subst hu; rfl
          case c3 => unfold maxLen; omega
          case c4 => omega
          case c5 => exact Nat.le_of_lt HX.out.size
          intro v' wz hownz hgz
          have HZ := Lib.hid (HX.out.app (by rw [hlen]; exact hownz) hgz)
          clear hownz hgz
          go_wp2_with fail
          go_roundw
          case rel => exact ⟨k + 1, by omega, by go_num, HS.out _ _ _ _ (by simp [stepL, hm]) HZ.out⟩
          case measure => simp [intOf]; omega
      have t0 : (kk == 0) = false := beq_eq_false_iff_ne.2 h0
      by_cases h1 : kk = 1
      · subst h1
        by_cases hm : K.mk s i ∈ hl
        · go_wp2_with fail
          refine (UID ⟨s, i⟩ _).mono ?_
          rintro e w2 ⟨rfl, g2⟩
          have HK2 := Lib.hid ((HK.out.none (World.grownBy_alloc wr (.cells #[.int .i64 1, .string s, .string i] 31) none)).none g2)
          clear g2
          simp only []
          go_wp2_with fail
          refine (k_rem_in HK2.out hsx hmx hm).mono ?_
          rintro e w3 ⟨rfl, hk3⟩
          have HK3 := Lib.hid hk3
          clear hk3
          simp only []

          have HX := Lib.hid (HK3.out.none (World.grownBy_alloc w3 (.cells #[.int .i64 1] 3) none))
          go_wp2_with (at_builtin; refine wpList_append_one _ rfl (.tmp 41) (.tmp 43) 24 rfl w.heap.size 3 _ 1 8 Tryd.underlying24 info3 rfl (by decide) _ _ _ rfl HX.out.own w3.heap.size [.int .i64 1] rfl rfl one_cell ?c2 ?c3 ?c4 ?c5 ?_)
          case c2 => intro u hu; simp at hu; subst hu; rfl
          case c3 => unfold maxLen; omega
          case c4 => omega
          case c5 => exact Nat.le_of_lt HX.out.size
          intro v' wz hownz hgz
          have HZ := Lib.hid (HX.out.app (by rw [hlen]; exact hownz) hgz)
          clear hownz hgz
          go_wp2_with fail
          go_roundw
          case rel => exact ⟨k + 1, by omega, by go_num, HS.out _ _ _ _ (by simp [stepL, hm]) HZ.out⟩
          case measure => simp [intOf]; omega
        · go_wp2_with fail
          refine (UID ⟨s, i⟩ _).mono ?_
          rintro e w2 ⟨rfl, g2⟩
          have HK2 := Lib.hid ((HK.out.none (World.grownBy_alloc wr (.cells #[.int .i64 1, .string s, .string i] 31) none)).none g2)
          clear g2
          simp only []
          go_wp2_with fail
          refine (k_rem_out HK2.out hsx hmx hm).mono ?_
          rintro e w3 ⟨rfl, hk3⟩
          have HK3 := Lib.hid hk3
          clear hk3
          simp only []

          have HX := Lib.hid (HK3.out.none (World.grownBy_alloc w3 (.cells #[.int .i64 0] 3) none))
          go_wp2_with (at_builtin; refine wpList_append_one _ rfl (.tmp 41) (.tmp 43) 24 rfl w.heap.size 3 _ 1 8 Tryd.underlying24 info3 rfl (by decide) _ _ _ rfl HX.out.own w3.heap.size [.int .i64 0] rfl rfl one_cell ?c2 ?c3 ?c4 ?c5 ?_)
          case c2 => intro u hu; simp at hu; subst hu; rfl
          case c3 => unfold maxLen; omega
          case c4 => omega
          case c5 => exact Nat.le_of_lt HX.out.size
          intro v' wz hownz hgz
          have HZ := Lib.hid (HX.out.app (by rw [hlen]; exact hownz) hgz)
          clear hownz hgz
          go_wp2_with fail
          go_roundw
          case rel => exact ⟨k + 1, by omega, by go_num, HS.out _ _ _ _ (by simp [stepL, hm]) HZ.out⟩
          case measure => simp [intOf]; omega
      have t1 : (kk == 1) = false := beq_eq_false_iff_ne.2 h1
      by_cases h2 : kk = 2
      · subst h2
        clear t0 t1
        obtain ⟨mv, hmv, HAS, _⟩ := (HK.out.none (World.grownBy_alloc wr (.cells #[.int .i64 2, .string s, .string i] 31) none)).set.val
        have HASX := HAS ⟨s, i⟩ hsx
        simp only [kv] at HASX
        have G0 : (wr.alloc (.cells #[.int .i64 2, .string s, .string i] 31)).grownBy (wr.alloc (.cells #[.int .i64 2, .string s, .string i] 31)).drew none := ⟨rfl, rfl, rfl, Nat.le_refl _, fun _ _ _ => rfl⟩
        have H0 : Held2 wr.heap.size w.heap.size mv s i (wr.alloc (.cells #[.int .i64 2, .string s, .string i] 31)) (wr.alloc (.cells #[.int .i64 2, .string s, .string i] 31)).drew := by
          refine Held2.start ?_ ?_ ?_ G0
          · simp only [World.cell?]; rw [hmv]; rfl
          · simp only [World.cell?]; rw [heap_alloc_new wr _]; rfl
          · simp only [World.cell?]; rw [heap_alloc_new wr _]; rfl
        by_cases hm : K.mk s i ∈ hl
        · have HASD : ∀ w', (wr.alloc (.cells #[.int .i64 2, .string s, .string i] 31)).grownBy w' none → Calls Tryd.prog 21 #[.agg #[mv], .agg #[.string s, .string i]] w' fun e w'' => e = .returned (.bool true) ∧ w'.grownBy w'' none := fun w' g => (HASX w' g).mono (fun e w'' h => ⟨by rw [h.1]; simp [hm], h.2⟩)
          go_upto_region 13 with fail
          go_region_held3 (fun w' => w'.cell? ⟨w.heap.size, 0, none⟩ = some mv ∧ w'.cell? ⟨wr.heap.size, 1, none⟩ = some (.string s) ∧ w'.cell? ⟨wr.heap.size, 2, none⟩ = some (.string i) ∧ (wr.alloc (.cells #[.int .i64 2, .string s, .string i] 31)).grownBy w' none)
            (first | exact ⟨H0.m, H0.t, H0.i, H0.grown⟩ | exact held_next (by assumption) (by assumption))
            (first
              | (go_at_call 19; refine (UID ⟨s, i⟩ _).mono ?_; rintro e w2 ⟨rfl, g2⟩)
              | (go_at_call 21; refine (HASD _ (held_grown (by assumption))).mono ?_; rintro e w3 ⟨rfl, g3⟩))
          have HK3 := Lib.hid ((((HK.out.none (World.grownBy_alloc wr (.cells #[.int .i64 2, .string s, .string i] 31) none)).none G0).none g2).none g3).more
          clear g2 g3

          have HX := Lib.hid (HK3.out.none (World.grownBy_alloc w3 (.cells #[.int .i64 1] 3) none))
          go_wp2_with (at_builtin; refine wpList_append_one _ rfl (.tmp 41) (.tmp 43) 24 rfl w.heap.size 3 _ 1 8 Tryd.underlying24 info3 rfl (by decide) _ _ _ rfl HX.out.own w3.heap.size [.int .i64 1] rfl rfl one_cell ?c2 ?c3 ?c4 ?c5 ?_)
          case c2 => intro u hu; simp at hu; subst hu; rfl
          case c3 => unfold maxLen; omega
          case c4 => omega
          case c5 => exact Nat.le_of_lt HX.out.size
          intro v' wz hownz hgz
          have HZ := Lib.hid (HX.out.app (by rw [hlen]; exact hownz) hgz)
          clear hownz hgz
          go_wp2_with fail
          go_roundw
          case rel => exact ⟨k + 1, by omega, by go_num, HS.out _ _ _ _ (by simp [stepL, hm]) HZ.out⟩
          case measure => simp [intOf]; omega
        · have HASD : ∀ w', (wr.alloc (.cells #[.int .i64 2, .string s, .string i] 31)).grownBy w' none → Calls Tryd.prog 21 #[.agg #[mv], .agg #[.string s, .string i]] w' fun e w'' => e = .returned (.bool false) ∧ w'.grownBy w'' none := fun w' g => (HASX w' g).mono (fun e w'' h => ⟨by rw [h.1]; simp [hm], h.2⟩)
          go_upto_region 13 with fail
          go_region_held3 (fun w' => w'.cell? ⟨w.heap.size, 0, none⟩ = some mv ∧ w'.cell? ⟨wr.heap.size, 1, none⟩ = some (.string s) ∧ w'.cell? ⟨wr.heap.size, 2, none⟩ = some (.string i) ∧ (wr.alloc (.cells #[.int .i64 2, .string s, .string i] 31)).grownBy w' none)
            (first | exact ⟨H0.m, H0.t, H0.i, H0.grown⟩ | exact held_next (by assumption) (by assumption))
            (first
              | (go_at_call 19; refine (UID ⟨s, i⟩ _).mono ?_; rintro e w2 ⟨rfl, g2⟩)
              | (go_at_call 21; refine (HASD _ (held_grown (by assumption))).mono ?_; rintro e w3 ⟨rfl, g3⟩))
          have HK3 := Lib.hid ((((HK.out.none (World.grownBy_alloc wr (.cells #[.int .i64 2, .string s, .string i] 31) none)).none G0).none g2).none g3).more
          clear g2 g3

          have HX := Lib.hid (HK3.out.none (World.grownBy_alloc w3 (.cells #[.int .i64 0] 3) none))
          go_wp2_with (at_builtin; refine wpList_append_one _ rfl (.tmp 41) (.tmp 43) 24 rfl w.heap.size 3 _ 1 8 Tryd.underlying24 info3 rfl (by decide) _ _ _ rfl HX.out.own w3.heap.size [.int .i64 0] rfl rfl one_cell ?c2 ?c3 ?c4 ?c5 ?_)
          case c2 => intro u hu; simp at hu; subst hu; rfl
          case c3 => unfold maxLen; omega
          case c4 => omega
          case c5 => exact Nat.le_of_lt HX.out.size
          intro v' wz hownz hgz
          have HZ := Lib.hid (HX.out.app (by rw [hlen]; exact hownz) hgz)
          clear hownz hgz
          go_wp2_with fail
          go_roundw
          case rel => exact ⟨k + 1, by omega, by go_num, HS.out _ _ _ _ (by simp [stepL, hm]) HZ.out⟩
          case measure => simp [intOf]; omega
      have t2 : (kk == 2) = false := beq_eq_false_iff_ne.2 h2
      by_cases h3 : kk = 3
      · subst h3
        clear t0 t1 t2
        obtain ⟨mv, hmv, _, LEN⟩ := (HK.out.none (World.grownBy_alloc wr (.cells #[.int .i64 3, .string s, .string i] 31) none)).set.val
        have cm : (wr.alloc (.cells #[.int .i64 3, .string s, .string i] 31)).cell? ⟨w.heap.size, 0, none⟩ = some mv := by simp only [World.cell?]; rw [hmv]; rfl
        have LENX := LEN _ ⟨rfl, rfl, rfl, Nat.le_refl _, fun _ _ _ => rfl⟩
        clear hmv LEN
        go_wp2_with fail
        refine LENX.mono ?_
        rintro e w3 ⟨rfl, g3⟩
        have HK3 := Lib.hid ((HK.out.none (World.grownBy_alloc wr (.cells #[.int .i64 3, .string s, .string i] 31) none)).none g3).more
        clear g3
        simp only []
        have HX := Lib.hid (HK3.out.none (World.grownBy_alloc w3 (.cells #[.int .i64 (hl.length : Int)] 3) none))
        go_wp2_with (at_builtin; refine wpList_append_one _ rfl (.tmp 41) (.tmp 43) 24 rfl w.heap.size 3 _ 1 8 Tryd.underlying24 info3 rfl (by decide) _ _ _ rfl HX.out.own w3.heap.size [.int .i64 (hl.length : Int)] rfl rfl one_cell ?c2 ?c3 ?c4 ?c5 ?_)
        case c2 => intro u hu; simp at hu; subst hu; rfl
        case c3 => unfold maxLen; omega
        case c4 => omega
        case c5 => exact Nat.le_of_lt HX.out.size
        intro v' wz hownz hgz
        have HZ := Lib.hid (HX.out.app (by rw [hlen]; exact hownz) hgz)
        clear hownz hgz
        go_wp2_with fail
        go_roundw
        case rel => exact ⟨k + 1, by omega, by go_num, HS.out _ _ _ _ (by simp [stepL]) HZ.out⟩
        case measure => simp [intOf]; omega
      have t3 : (kk == 3) = false := beq_eq_false_iff_ne.2 h3
      have HK3 := Lib.hid (HK.out.none (World.grownBy_alloc wr (.cells #[.int .i64 kk, .string s, .string i] 31) none)).more

      have HX := Lib.hid (HK3.out.none (World.grownBy_alloc (wr.alloc (.cells #[.int .i64 kk, .string s, .string i] 31)) (.cells #[.int .i64 0] 3) none))
      go_wp2_with (at_builtin; refine wpList_append_one _ rfl (.tmp 41) (.tmp 43) 24 rfl w.heap.size 3 _ 1 8 Tryd.underlying24 info3 rfl (by decide) _ _ _ rfl HX.out.own (wr.heap.size + 1) [.int .i64 0] rfl rfl (by have := @one_cell (wr.alloc (.cells #[.int .i64 kk, .string s, .string i] 31)) (.int .i64 0) 3; rw [show (wr.alloc (.cells #[.int .i64 kk, .string s, .string i] 31)).heap.size = wr.heap.size + 1 by simp] at this; exact this) ?c2 ?c3 ?c4 ?c5 ?_)
      case c2 => intro u hu; simp at hu; subst hu; rfl
      case c3 => unfold maxLen; omega
      case c4 => omega
      case c5 => exact Nat.le_of_lt HX.out.size
      intro v' wz hownz hgz
      have HZ := Lib.hid (HX.out.app (by rw [hlen]; exact hownz) hgz)
      clear hownz hgz
      go_wp2_with fail
      go_roundw
      case rel => exact ⟨k + 1, by omega, by go_num, HS.out _ _ _ _ (by simp [stepL, h0, h1, h2, h3]) HZ.out⟩
      case measure => simp [intOf]; omega
    · have : k = n := by omega
      subst this
      have HK := Lib.hid hK
      clear hK
      go_wp2_with fail
      go_ret
      have hlen := outsV_length kd id k
      exact ⟨_, rfl, by have := HK.out.own; rw [hlen] at this; exact this, HK.out.bel⟩
end Go.Proofs.YtmfolfjmajmamaaDoor.Ss
