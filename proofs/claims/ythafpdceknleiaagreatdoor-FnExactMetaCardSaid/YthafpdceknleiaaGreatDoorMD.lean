/- Rows of keys: append(append([]impl.Key{}, m.Keys...), ..). -/
import Derived.Test.YthafpdceknleiaaGreatDoorMC
import Derived.Deep.AppendLies
open Go Go.RowKit
namespace Go.Proofs.YthafpdceknleiaaGreatDoor
/-- Cells that read as n keys. -/
def KQ (w : World) (xs : List Value) (n : Nat) : Prop := xs.length = n * 3 ∧ (∀ u ∈ xs, u.oneCell' = true) ∧ ∀ j, j < n → ∃ cs, PKey w cs ∧ ∀ (i : Nat) (u : Value), cs[i]? = some u → xs[j * 3 + i]? = some u
theorem KQ.nil (w : World) : KQ w [] 0 := ⟨rfl, (fun _ h => by cases h), (fun j h => by omega)⟩
theorem KQ.append {w : World} {xs ys : List Value} {n m : Nat} (h : KQ w xs n) (k : KQ w ys m) : KQ w (xs ++ ys) (n + m) := by
  refine ⟨by rw [List.length_append, h.1, k.1]; omega, fun u hu => (List.mem_append.1 hu).elim (h.2.1 u) (k.2.1 u), fun j hj => ?_⟩
  rcases Nat.lt_or_ge j n with hn | hn
  · obtain ⟨cs, h1, h2⟩ := h.2.2 j hn
    refine ⟨cs, h1, fun i u hu => ?_⟩
    have := h2 i u hu
    rw [List.getElem?_append_left (List.getElem?_eq_some_iff.1 this).1]
    exact this
  · obtain ⟨cs, h1, h2⟩ := k.2.2 (j - n) (by omega)
    refine ⟨cs, h1, fun i u hu => ?_⟩
    have := h2 i u hu
    rw [List.getElem?_append_right (by rw [h.1]; omega), h.1, show j * 3 + i - n * 3 = (j - n) * 3 + i by omega]
    exact this
theorem KQ.any {w w' : World} {xs : List Value} {n : Nat} (h : KQ w xs n) : KQ w' xs n :=
  ⟨h.1, h.2.1, fun j hj => by obtain ⟨cs, h1, h2⟩ := h.2.2 j hj; exact ⟨cs, h1, h2⟩⟩
theorem keys_news {w : World} {a : Addr} : ∀ (n : Nat), (∀ j, j < n → ∃ cs, PKey w cs ∧ ∀ (i : Nat) (u : Value), cs[i]? = some u → w.cell? (a.add (j * 3 + i)) = some u) → ∃ news, KQ w news n ∧ ∀ (i : Nat) (u : Value), news[i]? = some u → w.cell? (a.add i) = some u
  | 0, _ => ⟨[], KQ.nil w, fun i u h => by cases h⟩
  | n + 1, h => by
    obtain ⟨news, h1, h2⟩ := keys_news n (fun j hj => h j (by omega))
    obtain ⟨cs, h3, h4⟩ := h n (by omega)
    have hcs : KQ w cs 1 := by
      obtain ⟨s0, s1, n2, rfl, g⟩ := h3
      refine ⟨rfl, fun u hu => ?_, fun j hj => ⟨[.string s0, .string s1, .int .i64 n2], ⟨s0, s1, n2, rfl, g⟩, fun i u hu => ?_⟩⟩
      · simp only [List.mem_cons, List.not_mem_nil, or_false] at hu
        rcases hu with rfl | rfl | rfl <;> rfl
      · rw [show j * 3 + i = i by omega]; exact hu
    refine ⟨news ++ cs, h1.append hcs, fun i u hu => ?_⟩
    rcases Nat.lt_or_ge i news.length with hi | hi
    · rw [List.getElem?_append_left hi] at hu
      exact h2 i u hu
    · rw [List.getElem?_append_right hi, h1.1] at hu
      have := h4 _ u hu
      rwa [show n * 3 + (i - n * 3) = i by rw [h1.1] at hi; omega] at this
theorem sl_own {w : World} {R n : Nat} {T : TypeId} {v : Value} {xs : List Value} (ho : w.ownsRow R T 3 v n xs) (hq : KQ w xs n) : SL PKey 3 w v := by
  rcases ho.2 with ⟨h1, _⟩ | ⟨g, cap, cur, rfl, _, hg, h2, h3, h4, h5⟩
  · exact .inl h1
  · refine .inr ⟨_, n, cap, rfl, h2, h3, fun j hj => ?_⟩
    obtain ⟨cs, k1, k2⟩ := hq.2.2 j hj
    refine ⟨cs, k1, fun i u hu => ?_⟩
    have := k2 i u hu
    have hlt := (List.getElem?_eq_some_iff.1 this).1
    rw [hq.1] at hlt
    rw [addrAdd, Nat.zero_add]
    rw [← h5, List.getElem?_take_of_lt hlt, Array.getElem?_toList] at this
    simp [World.cell?, hg, this]
/-- append of keys onto keys that the call owns, as one step of a region that draws. -/
theorem step_append_kq {ops : Array Oper} {o : Oper} {a : Act} {K : Act → World → Prop} {Q : Exit → Act → World → Prop} {E : Prop} {k0 : TypeInfo} (ki : Tryz.prog.info? 94 = some k0) (kz0 : k0.zero = some (.agg #[.string ⟨#[]⟩, .string ⟨#[]⟩, .int .i64 0])) (kz1 : k0.size = 3) (kz2 : k0.bytes = 40)
    (w : World) (hgd : o.guard = none) (s x : Operand) (ho : o.op = .call { callee := .builtin .append, args := #[s, x], argTypes := #[22, 22] })
    (base : Nat) (vo : Option Addr) (n vc : Nat) (xs : List Value) (hs : a.eval s = .slice vo n vc) (hown : w.ownsRow base 94 3 (.slice vo n vc) n xs) (hkq : KQ w xs n)
    (bo : Option Addr) (m c : Nat) (hx : a.eval x = .slice bo m c) (hsl : SL PKey 3 w (.slice bo m c)) (hn : n ≤ 1000) (hm : m ≤ 1000) (hbase : base ≤ w.heap.size)
    (h : ∀ vo' vc' w' ks, w'.ownsRow base 94 3 (.slice vo' (n + m) vc') (n + m) ks → KQ w' ks (n + m) → w.grownBy w' (Value.slice vo n vc).ownBlock → K (a.put o.dst (.slice vo' (n + m) vc')) w') :
    if Region.wanted o (yielded ops a.tmps) = true then Oper.wp Tryz.prog o a w K Q else E := by
  by_cases h0 : m = 0
  · subst h0
    have hw : Region.wanted o (yielded ops a.tmps) = true := by simp [Region.wanted, hgd]
    have hle : n ≤ vc := by
      rcases hown.2 with ⟨h1, h2⟩ | ⟨g, cap, cur, h1, _, _, h2, _⟩
      · injection h1 with _ _ h1; omega
      · injection h1 with _ _ h1; omega
    rw [if_pos hw]
    have hrun : (Builtin.append_ #[22, 22] o.type #[.slice vo n vc, .slice bo 0 c]).run Tryz.prog w = .ok (.slice vo n vc) w := by
      cases bo <;> cases vo <;> simp [Builtin.append_, run_underlying Tryz.underlying22, sizeOf, typeInfo, ki, hle, Builtin.lenOf, Builtin.firstCells, loadCells, loadCellsFrom, storeCells]
    unfold Oper.wp
    simp [execOp, ho, resolve, invoke, builtin, hs, hx, hrun, Result.andThen]
    exact h vo vc w xs hown hkq (World.grownBy.refl _ _)
  · rcases hsl with h1 | ⟨ad, n', c', h1, h2, h3, h4⟩
    · injection h1 with _ h1 _; exact absurd h1 h0
    · injection h1 with e1 e2 e3
      subst e1 e2 e3
      obtain ⟨news, g1, g2⟩ := keys_news m h4
      exact step_append_lies w hgd s x 22 ho base 94 k0 _ 3 40 Tryz.underlying22 ki kz0 kz1 kz2 rfl (by decide) _ n xs hs hown ad m c news hx g1.1 g2 g1.2.1 (by omega) (by unfold maxLen; omega) (by omega) hbase _ rfl
        (fun g cap w' k1 k2 _ _ => h _ _ w' _ k1 ((hkq.append g1).any) k2)
end Go.Proofs.YthafpdceknleiaaGreatDoor
