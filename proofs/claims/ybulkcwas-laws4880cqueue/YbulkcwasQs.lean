import Derived.Test.YbulkcwasOfferP
import Derived.Deep.RegionLaw
import Derived.Deep.RegionLawGrows
import Derived.Laws.AppendOwn
set_option linter.unusedSimpArgs false
set_option linter.unusedVariables false
namespace Go.Proofs.Ybulkcwas
open Go.RowKit

/-- What a call leaves alone below a base: all but the blocks of K. -/
structure Frb (base : Nat) (K : List Nat) (w w' : World) : Prop where
  os : w'.os = w.os
  tape : w'.tape = w.tape
  output : w'.output = w.output
  size : w.heap.size ≤ w'.heap.size
  block : ∀ i, i < base → i ∉ K → w'.heap[i]? = w.heap[i]?
theorem Frb.refl (base : Nat) (K : List Nat) (w : World) : Frb base K w w := ⟨rfl, rfl, rfl, Nat.le_refl _, fun _ _ _ => rfl⟩
theorem Frb.trans {base : Nat} {K : List Nat} {a b c : World} (h : Frb base K a b) (h' : Frb base K b c) : Frb base K a c :=
  ⟨h'.os.trans h.os, h'.tape.trans h.tape, h'.output.trans h.output, Nat.le_trans h.size h'.size, fun i hi hk => (h'.block i hi hk).trans (h.block i hi hk)⟩
theorem Frb.of {base : Nat} {K K' : List Nat} {a b : World} (h : Fr K' a b) (hb : base ≤ a.heap.size) (hk : ∀ i ∈ K', i ∈ K ∨ base ≤ i) : Frb base K a b :=
  ⟨h.os, h.tape, h.output, h.size, fun i hi hn => h.block i (by omega) (fun e => by rcases hk i e with h1 | h1 <;> first | exact hn h1 | omega)⟩
theorem Frb.since {base : Nat} {K : List Nat} {a b : World} (h : Since a b) (hb : base ≤ a.heap.size) : Frb base K a b := Frb.of (K' := []) (Fr.since h) hb (by simp)

/-- The queue, its heap nil or not; all but the heap's row below the base. -/
structure Qs (base : Nat) (w : World) (qb sb n m : Nat) (V : Nat → Ev) (T : Nat → Int) : Prop where
  ex : (m = 0 ∧ w.heap[qb]? = some (.cells #[.slice none 0 0, .slice (some ⟨sb, 0, none⟩) n n] 26)) ∨ ∃ g cap, base ≤ g ∧ w.heap[qb]? = some (.cells #[.slice (some ⟨g, 0, none⟩) m cap, .slice (some ⟨sb, 0, none⟩) n n] 26) ∧ EvRow w g m cap V
  hs : SlRow w sb n T
  lq : qb < base
  ls : sb < base
  ne : qb ≠ sb
  lb : base ≤ w.heap.size
  n16 : n ≤ 16
  m16 : m ≤ 16

theorem Qs.of {base : Nat} {w : World} {qb sb g n m cap : Nat} {V : Nat → Ev} {T : Nat → Int} (h : Qm w qb sb g n m cap V T) (h1 : base ≤ g) (h2 : qb < base) (h3 : sb < base) (h4 : base ≤ w.heap.size) : Qs base w qb sb n m V T :=
  ⟨.inr ⟨g, cap, h1, h.hq, h.he⟩, h.hs, h2, h3, h.d2, h4, h.n16, h.m16⟩
theorem Qs.qm {base : Nat} {w : World} {qb sb n m : Nat} {V : Nat → Ev} {T : Nat → Int} (h : Qs base w qb sb n m V T) (hm : 0 < m) : ∃ g cap, base ≤ g ∧ Qm w qb sb g n m cap V T := by
  rcases h.ex with ⟨h0, _⟩ | ⟨g, cap, h1, h2, h3⟩
  · omega
  · exact ⟨g, cap, h1, h2, h3, h.hs, by have := h.lq; omega, h.ne, by have := h.ls; omega, h.n16, h.m16⟩
theorem Qs.since {base : Nat} {w w' : World} {qb sb n m : Nat} {V : Nat → Ev} {T : Nat → Int} (h : Qs base w qb sb n m V T) (hs : Since w w') : Qs base w' qb sb n m V T := by
  refine ⟨?_, h.hs.since hs, h.lq, h.ls, h.ne, Nat.le_trans h.lb hs.size, h.n16, h.m16⟩
  rcases h.ex with ⟨h0, h1⟩ | ⟨g, cap, h1, h2, h3⟩
  · exact .inl ⟨h0, hs.keep h1⟩
  · exact .inr ⟨g, cap, h1, hs.keep h2, h3.since hs⟩
/-- The heap's value, and that it is a row of the queue's own. -/
theorem Qs.own {base : Nat} {w : World} {qb sb n m : Nat} {V : Nat → Ev} {T : Nat → Int} (h : Qs base w qb sb n m V T) :
    ∃ hv xs, w.heap[qb]? = some (.cells #[hv, .slice (some ⟨sb, 0, none⟩) n n] 26) ∧ w.ownsRow base 36 4 hv m xs ∧ (∃ a c, hv = .slice a m c) ∧
      ∀ j, j < m → xs[j * 4]? = some (.float .f64 (fl (V j).time)) ∧ xs[j * 4 + 1]? = some (.int .i32 (V j).fr) ∧ xs[j * 4 + 2]? = some (.int .i32 (V j).to) ∧ xs[j * 4 + 3]? = some (.int .i32 (V j).tt) := by
  rcases h.ex with ⟨h0, h1⟩ | ⟨g, cap, h1, h2, h3⟩
  · subst h0
    exact ⟨_, [], h1, World.ownsRow_nil _ _ _ _, ⟨_, _, rfl⟩, fun j hj => absurd hj (Nat.not_lt_zero _)⟩
  · obtain ⟨cur, c1, c2, c3⟩ := h3.ex
    have hmc := h3.mc
    refine ⟨_, cur.toList.take (m * 4), h2, ⟨by simp; omega, .inr ⟨g, cap, cur, rfl, h1, c1, h3.mc, h3.cm, c2, rfl⟩⟩, ⟨_, _, rfl⟩, fun j hj => ?_⟩
    obtain ⟨a, b, c, d⟩ := c3 j hj
    simp only [List.getElem?_take, Array.getElem?_toList]
    rw [if_pos (by omega), if_pos (by omega), if_pos (by omega), if_pos (by omega)]
    exact ⟨a, b, c, d⟩
theorem row_of_own {base : Nat} {w : World} {v : Value} {m : Nat} {xs : List Value} {V : Nat → Ev} (h : w.ownsRow base 36 4 v m xs) (hm : 0 < m)
    (hx : ∀ j, j < m → xs[j * 4]? = some (.float .f64 (fl (V j).time)) ∧ xs[j * 4 + 1]? = some (.int .i32 (V j).fr) ∧ xs[j * 4 + 2]? = some (.int .i32 (V j).to) ∧ xs[j * 4 + 3]? = some (.int .i32 (V j).tt)) :
    ∃ g cap, v = .slice (some ⟨g, 0, none⟩) m cap ∧ base ≤ g ∧ EvRow w g m cap V := by
  obtain ⟨h1, h2⟩ := h
  rcases h2 with ⟨_, h0⟩ | ⟨g, cap, cur, hv, hg, hh, hn, hc, hs, ht⟩
  · omega
  · refine ⟨g, cap, hv, hg, ⟨cur, hh, hs, fun j hj => ?_⟩, hn, hc⟩
    have key : ∀ k, k < m * 4 → cur[k]? = xs[k]? := fun k hk => by
      rw [← ht, List.getElem?_take, if_pos hk, Array.getElem?_toList]
    rw [key _ (by omega), key _ (by omega), key _ (by omega), key _ (by omega)]
    exact hx j hj

theorem info_parts {t : TypeId} {z : Value} {s b : Nat} (h : (Yba.prog.info? t).map (fun i => (i.zero, i.size, i.bytes)) = some (some z, s, b)) : ∃ i, Yba.prog.info? t = some i ∧ i.zero = some z ∧ i.size = s ∧ i.bytes = b := by
  cases hi : Yba.prog.info? t with
  | none => rw [hi] at h; cases h
  | some i =>
    rw [hi] at h
    simp at h
    exact ⟨i, rfl, h.1, h.2.1, h.2.2⟩
theorem Yba.info36 : (Yba.prog.info? 36).map (fun i => (i.zero, i.size, i.bytes)) = some (some (.agg #[.float .f64 0, .int .i32 0, .int .i32 0, .int .i32 0]), 4, 24) := by kernel_rfl

/-- 'append(s, c)' at copies, as a step of a region that draws. -/
theorem stepApp (base : Nat) (w : World) {ops : Array Oper} {o : Oper} {a : Act} {K : Act → World → Prop} {Q : Exit → Act → World → Prop} {E : Prop} (hgd : o.guard = none) (s x : Operand)
    (ho : o.op = .call { callee := .builtin .append, args := #[s, x], argTypes := #[23, 23] })
    (m : Nat) (hv : Value) (V : Nat → Ev) (c : Ev) (gl : List Nat) (hs : a.eval s = hv) (hq : (hv = .slice none 0 0 ∧ m = 0 ∧ gl = []) ∨ ∃ g cap, hv = .slice (some ⟨g, 0, none⟩) m cap ∧ gl = [g] ∧ base ≤ g ∧ EvRow w g m cap V) (b : Nat) (hx : a.eval x = .slice (some ⟨b, 0, none⟩) 1 1)
    (n0 : w.cell? ⟨b, 0, none⟩ = some (.float .f64 (fl c.time))) (n1 : w.cell? ⟨b, 1, none⟩ = some (.int .i32 c.fr)) (n2 : w.cell? ⟨b, 2, none⟩ = some (.int .i32 c.to)) (n3 : w.cell? ⟨b, 3, none⟩ = some (.int .i32 c.tt))
    (hm : m ≤ 15) (hb : base ≤ w.heap.size)
    (h : ∀ g cap w', base ≤ g → EvRow w' g (m + 1) cap (upd V m c) → Fr gl w w' → (g ∈ gl ∨ w.heap.size ≤ g) → K (a.put o.dst (.slice (some ⟨g, 0, none⟩) (m + 1) cap)) w') :
    if Region.wanted o (yielded ops a.tmps) = true then Oper.wp Yba.prog o a w K Q else E := by
  obtain ⟨i, hi, hz0, hz1, hz2⟩ := info_parts Yba.info36
  have hnews : ∀ j u, [Value.float .f64 (fl c.time), .int .i32 c.fr, .int .i32 c.to, .int .i32 c.tt][j]? = some u → w.cell? ((⟨b, 0, none⟩ : Addr).add j) = some u := by
    intro j u hu
    rcases j with _ | _ | _ | _ | j
    · simp at hu; subst hu; simpa [Addr.add] using n0
    · simp at hu; subst hu; simpa [Addr.add] using n1
    · simp at hu; subst hu; simpa [Addr.add] using n2
    · simp at hu; subst hu; simpa [Addr.add] using n3
    · simp at hu
  have hone : ∀ u ∈ [Value.float .f64 (fl c.time), .int .i32 c.fr, .int .i32 c.to, .int .i32 c.tt], u.oneCell' = true := by
    intro u hu
    simp at hu
    rcases hu with rfl | rfl | rfl | rfl <;> rfl
  have hgrow : ∀ (olds : List Value), olds.length = m * 4 → (∀ j, j < m → olds[j * 4]? = some (.float .f64 (fl (V j).time)) ∧ olds[j * 4 + 1]? = some (.int .i32 (V j).fr) ∧ olds[j * 4 + 2]? = some (.int .i32 (V j).to) ∧ olds[j * 4 + 3]? = some (.int .i32 (V j).tt)) →
      ∀ v' w', w'.ownsRow w.heap.size 36 4 v' (m + 1) (olds ++ [Value.float .f64 (fl c.time), .int .i32 c.fr, .int .i32 c.to, .int .i32 c.tt]) → w.grownBy w' none → K (a.put o.dst v') w' := by
    intro olds hlen hxs v' w' h1 h2
    obtain ⟨g, cap, hv', hg, he⟩ := row_of_own (V := upd V m c) h1 (by omega) (fun j hj => by
      by_cases e : j = m
      · subst e
        rw [upd_same]
        refine ⟨?_, ?_, ?_, ?_⟩
        · rw [List.getElem?_append_right (by omega), hlen]; simp
        · rw [List.getElem?_append_right (by omega), hlen]; simp
        · rw [List.getElem?_append_right (by omega), hlen]; simp
        · rw [List.getElem?_append_right (by omega), hlen]; simp
      · rw [upd_ne _ _ e]
        rw [List.getElem?_append_left (by omega), List.getElem?_append_left (by omega), List.getElem?_append_left (by omega), List.getElem?_append_left (by omega)]
        exact hxs j (by omega))
    subst hv'
    exact h g cap w' (by omega) he ⟨h2.os, h2.tape, h2.output, h2.size, fun k hk _ => h2.block k hk (fun e => by cases e)⟩ (.inr hg)
  rcases hq with ⟨rfl, rfl, rfl⟩ | ⟨g, cap, rfl, rfl, hbg, he⟩
  · exact step_append_grows hgd s x 23 ho 36 i _ 4 24 Yba.underlying23 hi hz0 hz1 hz2 rfl (by omega) none 0 0 [] hs (fun _ => ⟨rfl, rfl⟩) rfl (fun b h => by cases h) ⟨b, 0, none⟩ 1 1 _ hx rfl hnews hone (by omega) (by unfold maxLen; omega) (by omega)
      (hgrow [] rfl (fun j hj => absurd hj (Nat.not_lt_zero _)))
  · obtain ⟨cur, c1, c2, c3⟩ := he.ex
    have hmc := he.mc
    by_cases hroom : m + 1 ≤ cap
    · refine step_append_room hgd s x 23 ho 36 i 4 Yba.underlying23 hi hz1 g 0 m cap hs ⟨b, 0, none⟩ 1 1 _ hx rfl hnews hone hroom ?_ ?_
      · intro j hj
        simp at hj
        constructor
        · rw [cellOf c1, Array.getElem?_eq_getElem (by omega)]; rfl
        · exact frozenOf c1
      · have hset : w.setCells g (0 + m * 4) [Value.float .f64 (fl c.time), .int .i32 c.fr, .int .i32 c.to, .int .i32 c.tt] = (((w.setCell ⟨g, m * 4, none⟩ (.float .f64 (fl c.time))).setCell ⟨g, m * 4 + 1, none⟩ (.int .i32 c.fr)).setCell ⟨g, m * 4 + 2, none⟩ (.int .i32 c.to)).setCell ⟨g, m * 4 + 3, none⟩ (.int .i32 c.tt) := by
          simp [World.setCells]
        rw [hset]
        refine h g cap _ hbg ⟨⟨_, setOf (setOf (setOf (setOf c1))), by simp [c2], fun j hj => ?_⟩, hroom, he.cm⟩ (Fr.set (Fr.set (Fr.set (Fr.set (Fr.refl _ _) (.inl (by simp))) (.inl (by simp))) (.inl (by simp))) (.inl (by simp))) (.inl (by simp))
        by_cases e : j = m
        · subst e
          rw [upd_same]
          simp only [Array.getElem?_setIfInBounds, Array.size_setIfInBounds]
          refine ⟨?_, ?_, ?_, ?_⟩ <;> simp <;> omega
        · rw [upd_ne _ _ e]
          simp only [Array.getElem?_setIfInBounds, Array.size_setIfInBounds]
          obtain ⟨a, b, c', d⟩ := c3 j (by omega)
          refine ⟨?_, ?_, ?_, ?_⟩
          · rw [if_neg (by omega), if_neg (by omega), if_neg (by omega), if_neg (by omega)]; exact a
          · rw [if_neg (by omega), if_neg (by omega), if_neg (by omega), if_neg (by omega)]; exact b
          · rw [if_neg (by omega), if_neg (by omega), if_neg (by omega), if_neg (by omega)]; exact c'
          · rw [if_neg (by omega), if_neg (by omega), if_neg (by omega), if_neg (by omega)]; exact d
    · refine step_append_grows hgd s x 23 ho 36 i _ 4 24 Yba.underlying23 hi hz0 hz1 hz2 rfl (by omega) (some ⟨g, 0, none⟩) m cap (cur.toList.take (m * 4)) hs (fun h => by cases h) (by simp; omega) ?_ ⟨b, 0, none⟩ 1 1 _ hx rfl hnews hone (by omega) (by unfold maxLen; omega) (by omega)
        (hgrow (cur.toList.take (m * 4)) (by simp; omega) (fun j hj => ?_))
      · intro b' hb' j u hu
        cases hb'
        rw [List.getElem?_take] at hu
        split at hu
        · rw [Addr.add_lit, cellOf c1, Nat.zero_add, ← Array.getElem?_toList]; exact hu
        · cases hu
      · obtain ⟨a, b, c', d⟩ := c3 j hj
        simp only [List.getElem?_take, Array.getElem?_toList]
        rw [if_pos (by omega), if_pos (by omega), if_pos (by omega), if_pos (by omega)]
        exact ⟨a, b, c', d⟩
end Go.Proofs.Ybulkcwas
