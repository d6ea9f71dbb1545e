/- path.Match at patterns of *, ? and plain signs, as a plain function; what it comes to; a text cut at one sign, and put together again. -/
import Derived.Test.YtpanemfpipcggaaGreatDoorT0
open Go Go.RowKit
namespace Go.Proofs.YtpanemfpipcggaaGreatDoor
/-- A chunk without * at the head of a text: what is left. -/
def mcB : List UInt8 → List UInt8 → Option (List UInt8)
  | [], s => some s
  | _ :: _, [] => none
  | c :: cs, x :: xs => if c = 63 ∨ c = x then mcB cs xs else none
def unstarB (p : List UInt8) : List UInt8 := p.dropWhile (· == 42)
def chunkB (p : List UInt8) : List UInt8 := (unstarB p).takeWhile (· != 42)
def restB (p : List UInt8) : List UInt8 := (unstarB p).dropWhile (· != 42)
/-- Whether a pattern begins with a star. -/
def starB (p : List UInt8) : Bool := p.head? == some 42
/-- The first place behind the head at which a chunk fits. -/
def skipB (chunk : List UInt8) (last : Bool) : List UInt8 → Option (List UInt8)
  | [] => none
  | _ :: xs => match mcB chunk xs with
    | some t => if last = true ∧ t ≠ [] then skipB chunk last xs else some t
    | none => skipB chunk last xs
theorem unstar_le (p : List UInt8) : (unstarB p).length ≤ p.length := (List.dropWhile_sublist _).length_le
theorem rest_le (p : List UInt8) : (restB p).length ≤ (unstarB p).length := (List.dropWhile_sublist _).length_le
theorem rest_lt (c : UInt8) (p : List UInt8) : (restB (c :: p)).length < (c :: p).length := by
  by_cases h : c = 42
  · have h1 : unstarB (c :: p) = unstarB p := by subst h; simp [unstarB]
    have h2 := rest_le (c :: p)
    have h3 := unstar_le p
    rw [h1] at h2
    simp only [List.length_cons]
    omega
  · have h1 : unstarB (c :: p) = c :: p := by simp [unstarB, h]
    have h2 : restB (c :: p) = p.dropWhile (· != 42) := by simp [restB, h1, h]
    have h3 : (p.dropWhile (· != 42)).length ≤ p.length := (List.dropWhile_sublist _).length_le
    rw [h2]
    simp only [List.length_cons]
    omega
/-- path.Match at names without /. -/
def matB : List UInt8 → List UInt8 → Bool
  | [], name => name.isEmpty
  | c :: p, name =>
    if starB (c :: p) = true ∧ chunkB (c :: p) = [] then true else
    match mcB (chunkB (c :: p)) name with
    | some t => if t = [] ∨ restB (c :: p) ≠ [] then matB (restB (c :: p)) t else
        if starB (c :: p) = true then
          match skipB (chunkB (c :: p)) (restB (c :: p)).isEmpty name with
          | some t => matB (restB (c :: p)) t
          | none => false
        else false
    | none => if starB (c :: p) = true then
          match skipB (chunkB (c :: p)) (restB (c :: p)).isEmpty name with
          | some t => matB (restB (c :: p)) t
          | none => false
        else false
termination_by p => p.length
decreasing_by all_goals exact rest_lt _ _
/-- A pattern covers a text. -/
def GM : List UInt8 → List UInt8 → Prop
  | [], s => s = []
  | c :: p, s => if c = 42 then ∃ u v, s = u ++ v ∧ GM p v else ∃ x v, s = x :: v ∧ (c = 63 ∨ c = x) ∧ GM p v
theorem gm_nil (s : List UInt8) : GM [] s ↔ s = [] := by rw [GM]
theorem gm_star (p s : List UInt8) : GM (42 :: p) s ↔ ∃ u v, s = u ++ v ∧ GM p v := by rw [GM, if_pos rfl]
theorem gm_one {c : UInt8} (h : c ≠ 42) (p s : List UInt8) : GM (c :: p) s ↔ ∃ x v, s = x :: v ∧ (c = 63 ∨ c = x) ∧ GM p v := by rw [GM, if_neg h]
theorem gm_append : ∀ (p q s : List UInt8), GM (p ++ q) s ↔ ∃ u v, s = u ++ v ∧ GM p u ∧ GM q v
  | [], q, s => by
    constructor
    · intro h; exact ⟨[], s, rfl, (gm_nil _).2 rfl, h⟩
    · rintro ⟨u, v, rfl, h1, h2⟩; rw [(gm_nil u).1 h1]; exact h2
  | c :: p, q, s => by
    rw [List.cons_append]
    by_cases hc : c = 42
    · subst hc
      rw [gm_star]
      constructor
      · rintro ⟨u, v, rfl, h⟩
        obtain ⟨u2, v2, rfl, h1, h2⟩ := (gm_append p q v).1 h
        exact ⟨u ++ u2, v2, by simp, (gm_star _ _).2 ⟨u, u2, rfl, h1⟩, h2⟩
      · rintro ⟨u, v, rfl, h1, h2⟩
        obtain ⟨a, b, rfl, h3⟩ := (gm_star _ _).1 h1
        exact ⟨a, b ++ v, by simp, (gm_append p q _).2 ⟨b, v, rfl, h3, h2⟩⟩
    · rw [gm_one hc]
      constructor
      · rintro ⟨x, v, rfl, h0, h⟩
        obtain ⟨u2, v2, rfl, h1, h2⟩ := (gm_append p q v).1 h
        exact ⟨x :: u2, v2, rfl, (gm_one hc _ _).2 ⟨x, u2, rfl, h0, h1⟩, h2⟩
      · rintro ⟨u, v, rfl, h1, h2⟩
        obtain ⟨x, b, rfl, h0, h3⟩ := (gm_one hc _ _).1 h1
        exact ⟨x, b ++ v, rfl, h0, (gm_append p q _).2 ⟨b, v, rfl, h3, h2⟩⟩
theorem gm_wide {p s : List UInt8} (u : List UInt8) (h : GM (42 :: p) s) : GM (42 :: p) (u ++ s) := by
  obtain ⟨a, b, rfl, h2⟩ := (gm_star _ _).1 h
  exact (gm_star _ _).2 ⟨u ++ a, b, by simp, h2⟩
/-- A chunk without stars covers the head of a text. -/
theorem mc_gm : ∀ {c : List UInt8}, (∀ x ∈ c, x ≠ 42) → ∀ (s t : List UInt8), mcB c s = some t ↔ ∃ u, s = u ++ t ∧ GM c u
  | [], _, s, t => by
    constructor
    · intro h; cases h; exact ⟨[], rfl, (gm_nil _).2 rfl⟩
    · rintro ⟨u, rfl, h⟩; rw [(gm_nil u).1 h]; rfl
  | c :: cs, hc, [], t => by
    constructor
    · intro h; cases h
    · rintro ⟨u, hu, h⟩
      obtain ⟨x, v, rfl, _⟩ := (gm_one (hc c List.mem_cons_self) _ _).1 h
      cases hu
  | c :: cs, hc, x :: xs, t => by
    have ih := mc_gm (fun y hy => hc y (List.mem_cons_of_mem _ hy)) xs t
    have h0 := hc c List.mem_cons_self
    rw [mcB]
    by_cases h : c = 63 ∨ c = x
    · rw [if_pos h, ih]
      constructor
      · rintro ⟨u, rfl, h2⟩; exact ⟨x :: u, rfl, (gm_one h0 _ _).2 ⟨x, u, rfl, h, h2⟩⟩
      · rintro ⟨u, hu, h2⟩
        obtain ⟨y, v, rfl, _, h3⟩ := (gm_one h0 _ _).1 h2
        cases hu
        exact ⟨v, rfl, h3⟩
    · rw [if_neg h]
      constructor
      · intro h; cases h
      · rintro ⟨u, hu, h2⟩
        obtain ⟨y, v, rfl, h4, h3⟩ := (gm_one h0 _ _).1 h2
        cases hu
        exact absurd h4 h
theorem mc_len : ∀ {c s t : List UInt8}, mcB c s = some t → s.length = c.length + t.length
  | [], s, t, h => by cases h; simp
  | c :: cs, [], t, h => by cases h
  | c :: cs, x :: xs, t, h => by
    rw [mcB] at h
    split at h
    · have := mc_len h; simp only [List.length_cons]; omega
    · cases h
theorem take_noB (c : UInt8) : ∀ (l : List UInt8), ∀ x ∈ l.takeWhile (· != c), x ≠ c
  | [], x, h => by cases h
  | y :: l, x, h => by
    rw [List.takeWhile_cons] at h
    split at h
    · rename_i e
      rcases List.mem_cons.1 h with rfl | h
      · simpa using e
      · exact take_noB c l x h
    · cases h
theorem dropWhile_headB {f : UInt8 → Bool} : ∀ (l : List UInt8), l.dropWhile f = [] ∨ ∃ x r, l.dropWhile f = x :: r ∧ f x = false
  | [] => .inl rfl
  | y :: l => by
    rw [List.dropWhile_cons]
    split
    · exact dropWhile_headB l
    · rename_i e; exact .inr ⟨y, l, rfl, by simpa using e⟩
theorem unstar_split (p : List UInt8) : unstarB p = chunkB p ++ restB p := (List.takeWhile_append_dropWhile).symm
theorem rest_head (p : List UInt8) : restB p = [] ∨ ∃ r, restB p = 42 :: r := by
  rcases dropWhile_headB (f := (· != 42)) (unstarB p) with h | ⟨x, r, h, hx⟩
  · exact .inl h
  · refine .inr ⟨r, ?_⟩
    unfold restB
    rw [h]
    simp at hx
    rw [hx]
theorem gm_unstar : ∀ (p s : List UInt8), starB p = true → (GM p s ↔ ∃ u v, s = u ++ v ∧ GM (unstarB p) v)
  | [], s, h => by cases h
  | c :: p, s, h => by
    have hc : c = 42 := by simpa [starB] using h
    subst hc
    have e : unstarB (42 :: p) = unstarB p := by simp [unstarB]
    rw [e, gm_star]
    by_cases h2 : starB p = true
    · constructor
      · rintro ⟨u, v, rfl, h3⟩
        obtain ⟨a, b, rfl, h4⟩ := (gm_unstar p v h2).1 h3
        exact ⟨u ++ a, b, by simp, h4⟩
      · rintro ⟨u, v, rfl, h3⟩
        exact ⟨[], u ++ v, rfl, (gm_unstar p _ h2).2 ⟨u, v, rfl, h3⟩⟩
    · have e2 : unstarB p = p := by
        cases p with
        | nil => rfl
        | cons d p =>
          have hd : d ≠ 42 := by simpa [starB] using h2
          simp [unstarB, hd]
      rw [e2]
theorem unstar_plain {p : List UInt8} (h : starB p ≠ true) : unstarB p = p := by
  cases p with
  | nil => rfl
  | cons d p =>
    have hd : d ≠ 42 := by simpa [starB] using h
    simp [unstarB, hd]
/-- What the search behind a star finds: the first place that serves. -/
theorem skip_some {c : List UInt8} {last : Bool} : ∀ {s t : List UInt8}, skipB c last s = some t → ∃ u x v, s = u ++ x :: v ∧ mcB c v = some t ∧ (last = true → t = [])
  | [], t, h => by cases h
  | x :: xs, t, h => by
    rw [skipB] at h
    split at h
    · rename_i t1 e
      split at h
      · obtain ⟨u, y, v, e1, h1, h2⟩ := skip_some h
        exact ⟨x :: u, y, v, by rw [e1]; rfl, h1, h2⟩
      · rename_i h3
        cases h
        refine ⟨[], x, xs, rfl, e, fun hl => ?_⟩
        rcases Classical.em (t = []) with h4 | h4
        · exact h4
        · exact absurd ⟨hl, h4⟩ h3
    · obtain ⟨u, y, v, e1, h1, h2⟩ := skip_some h
      exact ⟨x :: u, y, v, by rw [e1]; rfl, h1, h2⟩
/-- Each place behind the head that serves is no shorter than what is found. -/
theorem skip_least {c : List UInt8} {last : Bool} : ∀ {s u v t : List UInt8} {x : UInt8}, s = u ++ x :: v → mcB c v = some t → (last = true → t = []) →
    ∃ t1, skipB c last s = some t1 ∧ ∃ z, t1 = z ++ t
  | [], u, v, t, x, h, _, _ => by simp at h
  | y :: ys, u, v, t, x, h, hm, hl => by
    rw [skipB]
    cases u with
    | nil =>
      simp only [List.nil_append, List.cons.injEq] at h
      obtain ⟨rfl, rfl⟩ := h
      rw [hm]
      simp only
      rw [if_neg (fun h => h.2 (hl h.1))]
      exact ⟨t, rfl, [], rfl⟩
    | cons a u =>
      simp only [List.cons_append, List.cons.injEq] at h
      obtain ⟨rfl, rfl⟩ := h
      obtain ⟨t1, h1, z, hz⟩ := skip_least (s := u ++ x :: v) rfl hm hl
      split
      · rename_i t2 e
        split
        · exact ⟨t1, h1, z, hz⟩
        · refine ⟨t2, rfl, ?_⟩
          have l1 := mc_len e
          have l2 := mc_len hm
          have g : ∃ a, u ++ x :: v = a ++ t2 := by
            have : ∀ {c s t : List UInt8}, mcB c s = some t → ∃ a, s = a ++ t := by
              intro c
              induction c with
              | nil => intro s t h; cases h; exact ⟨[], rfl⟩
              | cons c cs ih =>
                intro s t h
                cases s with
                | nil => cases h
                | cons d s =>
                  rw [mcB] at h
                  split at h
                  · obtain ⟨a, ha⟩ := ih h; exact ⟨d :: a, by rw [ha]; rfl⟩
                  · cases h
            exact this e
          have g2 : ∃ b, v = b ++ t := by
            have : ∀ {c s t : List UInt8}, mcB c s = some t → ∃ a, s = a ++ t := by
              intro c
              induction c with
              | nil => intro s t h; cases h; exact ⟨[], rfl⟩
              | cons c cs ih =>
                intro s t h
                cases s with
                | nil => cases h
                | cons d s =>
                  rw [mcB] at h
                  split at h
                  · obtain ⟨a, ha⟩ := ih h; exact ⟨d :: a, by rw [ha]; rfl⟩
                  · cases h
            exact this hm
          obtain ⟨a, ha⟩ := g
          obtain ⟨b, hb⟩ := g2
          have e1 : a ++ t2 = (u ++ x :: b) ++ t := by rw [← ha, hb]; simp
          have hlen : t.length ≤ t2.length := by
            simp only [List.length_append, List.length_cons] at l1 l2
            omega
          rcases List.append_eq_append_iff.1 e1 with ⟨z, h3, h4⟩ | ⟨z, h3, h4⟩
          · exact ⟨z, h4⟩
          · rw [h4, List.length_append] at hlen
            have : z = [] := List.length_eq_zero_iff.1 (by omega)
            subst this
            exact ⟨[], by simpa using h4.symm⟩
      · exact ⟨t1, h1, z, hz⟩
theorem mat_cons (c : UInt8) (p name : List UInt8) : matB (c :: p) name =
    if starB (c :: p) = true ∧ chunkB (c :: p) = [] then true else
    match mcB (chunkB (c :: p)) name with
    | some t => if t = [] ∨ restB (c :: p) ≠ [] then matB (restB (c :: p)) t else
        if starB (c :: p) = true then
          match skipB (chunkB (c :: p)) (restB (c :: p)).isEmpty name with
          | some t => matB (restB (c :: p)) t
          | none => false
        else false
    | none => if starB (c :: p) = true then
          match skipB (chunkB (c :: p)) (restB (c :: p)).isEmpty name with
          | some t => matB (restB (c :: p)) t
          | none => false
        else false := by
  rw [matB]
theorem mat_gm : ∀ (n : Nat) (p s : List UInt8), p.length ≤ n → (matB p s = true ↔ GM p s) := by
  intro n
  induction n with
  | zero =>
    intro p s h
    have : p = [] := List.length_eq_zero_iff.1 (by omega)
    subst this
    rw [matB, gm_nil]
    simp
  | succ n ih =>
    intro p s h
    cases p with
    | nil => rw [matB, gm_nil]; simp
    | cons c p =>
      have hr := rest_lt c p
      have ihr : ∀ t, matB (restB (c :: p)) t = true ↔ GM (restB (c :: p)) t := fun t => ih _ t (by omega)
      have hcn : ∀ x ∈ chunkB (c :: p), x ≠ 42 := take_noB 42 _
      have hmc := mc_gm hcn
      have hus := unstar_split (c :: p)
      have hrh := rest_head (c :: p)
      rw [mat_cons]
      obtain ⟨r, hrr⟩ : ∃ r, r = restB (c :: p) := ⟨_, rfl⟩
      obtain ⟨k, hkk⟩ : ∃ k, k = chunkB (c :: p) := ⟨_, rfl⟩
      rw [← hrr] at ihr hus hrh ⊢
      rw [← hkk] at hmc hus ⊢
      by_cases hs : starB (c :: p) = true
      · rw [gm_unstar _ _ hs, hus]
        have hsk : (match skipB k r.isEmpty s with | some t => matB r t | none => false) = true → ∃ u v, s = u ++ v ∧ GM (k ++ r) v := by
          intro hq
          split at hq
          · rename_i t e
            obtain ⟨u, x, v, e1, h1, h2⟩ := skip_some e
            obtain ⟨a, ha, hg⟩ := (hmc v t).1 h1
            exact ⟨u ++ [x], v, by rw [e1]; simp, (gm_append _ _ _).2 ⟨a, t, ha, hg, (ihr t).1 hq⟩⟩
          · cases hq
        -- a place that serves, not the head's
        have hks : ∀ (u v : List UInt8) (x : UInt8) (t : List UInt8), s = u ++ x :: v → mcB k v = some t → GM r t → (match skipB k r.isEmpty s with | some t => matB r t | none => false) = true := by
          intro u v x t e1 h1 h2
          obtain ⟨t1, h3, z, hz⟩ := skip_least (last := r.isEmpty) e1 h1 (fun hl => by
            have : r = [] := by simpa using hl
            subst this; exact (gm_nil t).1 h2)
          rw [h3]
          simp only
          rw [ihr]
          rcases hrh with hrn | ⟨r2, hr2⟩
          · obtain ⟨u3, x3, v3, _, _, h6⟩ := skip_some h3
            have : t1 = [] := h6 (by rw [hrn]; rfl)
            rw [hrn, gm_nil]; exact this
          · rw [hz, hr2]; rw [hr2] at h2; exact gm_wide z h2
        by_cases hk : k = []
        · rw [if_pos ⟨hs, hk⟩]
          subst hk
          have hrn : r = [] := by
            rcases hrh with h | ⟨r2, h⟩
            · exact h
            · exfalso
              rcases dropWhile_headB (f := (· == 42)) (c :: p) with h5 | ⟨x, q, h5, h6⟩
              · unfold unstarB at hus; rw [h5, h] at hus; cases hus
              · unfold unstarB at hus; rw [h5, h] at hus
                simp at hus
                rw [hus.1] at h6
                simp at h6
          subst hrn
          simp only [true_iff]
          exact ⟨s, [], by simp, (gm_nil _).2 rfl⟩
        · rw [if_neg (fun h => hk h.2)]
          have back : (∃ u v, s = u ++ v ∧ GM (k ++ r) v) → (∃ t, mcB k s = some t ∧ GM r t) ∨ (match skipB k r.isEmpty s with | some t => matB r t | none => false) = true := by
            rintro ⟨u, v, e1, h1⟩
            obtain ⟨a, t, ha, hg, h2⟩ := (gm_append _ _ _).1 h1
            have h3 := (hmc v t).2 ⟨a, ha, hg⟩
            rcases List.eq_nil_or_concat u with rfl | ⟨u2, x, rfl⟩
            · left; exact ⟨t, by rw [e1]; exact h3, h2⟩
            · right; exact hks u2 v x t (by rw [e1]; simp) h3 h2
          split
          · rename_i t e
            split
            · rename_i h1
              rw [ihr]
              constructor
              · intro h2
                obtain ⟨a, ha, hg⟩ := (hmc s t).1 e
                exact ⟨[], s, rfl, (gm_append _ _ _).2 ⟨a, t, ha, hg, h2⟩⟩
              · intro h2
                rcases back h2 with ⟨t2, h3, h4⟩ | h3
                · rw [e] at h3; cases h3; exact h4
                · split at h3
                  · rename_i t3 e3
                    obtain ⟨u, x, v, e1, h5, _⟩ := skip_some e3
                    rw [ihr] at h3
                    rcases hrh with hrn | ⟨r2, hr2⟩
                    · rw [hrn, gm_nil]
                      rcases h1 with h1 | h1
                      · exact h1
                      · exact absurd hrn h1
                    · rw [hr2] at h3 ⊢
                      -- t3 is a tail of t
                      obtain ⟨a, ha, _⟩ := (hmc s t).1 e
                      obtain ⟨b, hb, _⟩ := (hmc v t3).1 h5
                      have l1 := mc_len e
                      have l2 := mc_len h5
                      have e7 : a ++ t = (u ++ x :: b) ++ t3 := by rw [← ha, e1, hb]; simp
                      have hlen : t3.length ≤ t.length := by
                        have := congrArg List.length e1
                        simp only [List.length_append, List.length_cons] at this
                        omega
                      rcases List.append_eq_append_iff.1 e7 with ⟨z, h8, h9⟩ | ⟨z, h8, h9⟩
                      · rw [h9]; exact gm_wide z h3
                      · rw [h9, List.length_append] at hlen
                        have : z = [] := List.length_eq_zero_iff.1 (by omega)
                        subst this
                        simp at h9
                        rw [← h9]; exact h3
                  · cases h3
            · rename_i h1
              constructor
              · exact hsk
              · intro h2
                rcases back h2 with ⟨t2, h3, h4⟩ | h3
                · rw [e] at h3; cases h3
                  exfalso
                  apply h1
                  rcases hrh with hrn | ⟨r2, hr2⟩
                  · left; rw [hrn] at h4; exact (gm_nil t).1 h4
                  · right; rw [hr2]; simp
                · exact h3
          · rename_i e
            rw [if_pos hs]
            constructor
            · exact hsk
            · intro h2
              rcases back h2 with ⟨t2, h3, h4⟩ | h3
              · rw [e] at h3; cases h3
              · exact h3
      · rw [unstar_plain hs] at hus
        have hs2 : ¬ starB (k ++ r) = true := by rw [← hus]; exact hs
        rw [if_neg (fun h => hs h.1), hus]
        split
        · rename_i t e
          obtain ⟨a, ha, hg⟩ := (hmc s t).1 e
          have back : GM (k ++ r) s ↔ GM r t := by
            constructor
            · intro h2
              obtain ⟨a2, t2, ha2, hg2, h3⟩ := (gm_append _ _ _).1 h2
              have := (hmc s t2).2 ⟨a2, ha2, hg2⟩
              rw [e] at this; cases this; exact h3
            · intro h2; exact (gm_append _ _ _).2 ⟨a, t, ha, hg, h2⟩
          split
          · rw [ihr, back]
          · rename_i h1
            first | rw [if_neg hs2, back] | rw [back]
            constructor
            · intro h; cases h
            · intro h2
              exfalso
              apply h1
              rcases hrh with hrn | ⟨r2, hr2⟩
              · left; rw [hrn] at h2; exact (gm_nil t).1 h2
              · right; rw [hr2]; simp
        · rename_i e
          try rw [if_neg hs2]
          constructor
          · intro h; cases h
          · intro h2
            obtain ⟨a2, t2, ha2, hg2, h3⟩ := (gm_append _ _ _).1 h2
            have := (hmc s t2).2 ⟨a2, ha2, hg2⟩
            rw [e] at this; cases this
theorem matB_iff (p s : List UInt8) : matB p s = true ↔ GM p s := mat_gm _ p s (Nat.le_refl _)
/-- A pattern of plain signs covers itself alone. -/
theorem gm_plain : ∀ {p : List UInt8}, (∀ x ∈ p, x ≠ 42 ∧ x ≠ 63) → ∀ s, GM p s ↔ s = p
  | [], _, s => gm_nil s
  | c :: p, h, s => by
    have h0 := h c List.mem_cons_self
    rw [gm_one h0.1]
    constructor
    · rintro ⟨x, v, rfl, h1, h2⟩
      rcases h1 with h1 | rfl
      · exact absurd h1 h0.2
      · rw [(gm_plain (fun y hy => h y (List.mem_cons_of_mem _ hy)) v).1 h2]
    · rintro rfl
      exact ⟨c, p, rfl, .inr rfl, (gm_plain (fun y hy => h y (List.mem_cons_of_mem _ hy)) p).2 rfl⟩
/-- A text cut at each /. -/
def splitB : List UInt8 → List (List UInt8)
  | [] => [[]]
  | x :: l => if x = 47 then [] :: splitB l else match splitB l with
    | [] => [[x]]
    | a :: r => (x :: a) :: r
theorem split_ne : ∀ l : List UInt8, splitB l ≠ []
  | [] => by simp [splitB]
  | x :: l => by
    rw [splitB]
    split
    · simp
    · split <;> simp
theorem split_none : ∀ {l : List UInt8}, (∀ x ∈ l, x ≠ 47) → splitB l = [l]
  | [], _ => rfl
  | x :: l, h => by
    rw [splitB, if_neg (h x List.mem_cons_self), split_none (fun y hy => h y (List.mem_cons_of_mem _ hy))]
theorem split_cut : ∀ {a : List UInt8} (r : List UInt8), (∀ x ∈ a, x ≠ 47) → splitB (a ++ 47 :: r) = a :: splitB r
  | [], r, _ => by simp [splitB]
  | x :: a, r, h => by
    rw [List.cons_append, splitB, if_neg (h x List.mem_cons_self), split_cut r (fun y hy => h y (List.mem_cons_of_mem _ hy))]
theorem split_mem : ∀ (l : List UInt8), ∀ a ∈ splitB l, ∀ x ∈ a, x ∈ l ∧ x ≠ 47
  | [], a, ha, x, hx => by
    simp [splitB] at ha; subst ha; cases hx
  | y :: l, a, ha, x, hx => by
    have ih := split_mem l
    rw [splitB] at ha
    split at ha
    · rcases List.mem_cons.1 ha with rfl | ha
      · cases hx
      · exact ⟨List.mem_cons_of_mem _ (ih a ha x hx).1, (ih a ha x hx).2⟩
    · rename_i hy
      split at ha
      · simp at ha; subst ha
        simp at hx; subst hx
        exact ⟨List.mem_cons_self, hy⟩
      · rename_i b r e
        rcases List.mem_cons.1 ha with rfl | ha
        · rcases List.mem_cons.1 hx with rfl | hx
          · exact ⟨List.mem_cons_self, hy⟩
          · have := ih b (by rw [e]; exact List.mem_cons_self) x hx
            exact ⟨List.mem_cons_of_mem _ this.1, this.2⟩
        · have := ih a (by rw [e]; exact List.mem_cons_of_mem _ ha) x hx
          exact ⟨List.mem_cons_of_mem _ this.1, this.2⟩
theorem split_len : ∀ (l : List UInt8), (splitB l).length ≤ l.length + 1
  | [] => by simp [splitB]
  | x :: l => by
    have := split_len l
    rw [splitB]
    split
    · simp only [List.length_cons]; omega
    · split
      · simp
      · rename_i b r e
        rw [e] at this
        simp only [List.length_cons] at this ⊢
        omega
/-- Texts put together with / between. -/
def joinS : List (List UInt8) → List UInt8
  | [] => []
  | [a] => a
  | a :: b :: l => a ++ 47 :: joinS (b :: l)
theorem split_join : ∀ {l : List (List UInt8)}, l ≠ [] → (∀ a ∈ l, ∀ x ∈ a, x ≠ 47) → splitB (joinS l) = l
  | [], h, _ => absurd rfl h
  | [a], _, h => split_none (h a List.mem_cons_self)
  | a :: b :: l, _, h => by
    rw [joinS, split_cut _ (h a List.mem_cons_self), split_join (by simp) (fun c hc => h c (List.mem_cons_of_mem _ hc))]
/-- What is put together so far, and one more. -/
theorem joinS_snoc : ∀ {l : List (List UInt8)} (a : List UInt8), l ≠ [] → joinS (l ++ [a]) = joinS l ++ 47 :: a
  | [], _, h => absurd rfl h
  | [b], a, _ => rfl
  | b :: c :: l, a, _ => by
    have := joinS_snoc (l := c :: l) a (by simp)
    rw [show (b :: c :: l) ++ [a] = b :: ((c :: l) ++ [a]) from rfl]
    rw [show ((c :: l) ++ [a]) = c :: (l ++ [a]) from rfl] at this ⊢
    rw [joinS, this, joinS]
    simp
/-- isTargetInPathPattern. -/
def allB : List (List UInt8) → List (List UInt8) → Bool
  | a :: l, b :: m => matB b a && allB l m
  | _, _ => true
def tipB (path pattern : List UInt8) : Bool := decide ((splitB path).length = (splitB pattern).length) && allB (splitB path) (splitB pattern)
theorem allB_iff : ∀ {l m : List (List UInt8)}, l.length = m.length → (allB l m = true ↔ ∀ (i : Nat) (a b : List UInt8), l[i]? = some a → m[i]? = some b → matB b a = true)
  | [], [], _ => by simp [allB]
  | a :: l, b :: m, h => by
    rw [allB, Bool.and_eq_true, allB_iff (l := l) (m := m) (by simpa using h)]
    constructor
    · rintro ⟨h1, h2⟩ i x y hx hy
      cases i with
      | zero => simp at hx hy; subst hx hy; exact h1
      | succ i => simp at hx hy; exact h2 i x y hx hy
    · intro h1
      exact ⟨h1 0 a b rfl rfl, fun i x y hx hy => h1 (i + 1) x y (by simpa using hx) (by simpa using hy)⟩
theorem tip_plain {l m : List (List UInt8)} (hl : l ≠ []) (hm : m ≠ []) (hls : ∀ a ∈ l, ∀ x ∈ a, x ≠ 47) (hms : ∀ a ∈ m, ∀ x ∈ a, x ≠ 47 ∧ x ≠ 42 ∧ x ≠ 63) : tipB (joinS l) (joinS m) = true ↔ l = m := by
  unfold tipB
  rw [split_join hl hls, split_join hm (fun a ha x hx => (hms a ha x hx).1), Bool.and_eq_true, decide_eq_true_eq]
  constructor
  · rintro ⟨h1, h2⟩
    apply List.ext_getElem? 
    intro i
    rcases Nat.lt_or_ge i l.length with hi | hi
    · have e1 := List.getElem?_eq_getElem hi
      have e2 := List.getElem?_eq_getElem (show i < m.length by omega)
      have h3 := (allB_iff h1).1 h2 i _ _ e1 e2
      rw [matB_iff, gm_plain (fun x hx => (hms _ (List.getElem_mem _) x hx).2)] at h3
      rw [e1, e2, h3]
    · rw [List.getElem?_eq_none hi, List.getElem?_eq_none (by omega)]
  · rintro rfl
    refine ⟨rfl, (allB_iff rfl).2 fun i a b h1 h2 => ?_⟩
    rw [h1] at h2; cases h2
    rw [matB_iff, gm_plain (fun x hx => (hms _ (List.mem_of_getElem? h1) x hx).2)]
end Go.Proofs.YtpanemfpipcggaaGreatDoor
