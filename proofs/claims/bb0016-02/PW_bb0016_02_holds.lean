import PyProof.Rows.All
import Wide.All
import OpenK.AllK
import Wide.FinOn
import Lean
import PySem.Challenge.RW_bb0016_02
set_option Elab.async false
section
/-! Plain law for bb0016-02: Belady's row of loads is a lower bound; stretches. -/
namespace Mine
open List

theorem nodup_sub_len {α : Type} [DecidableEq α] : ∀ {l₁ l₂ : List α}, l₁.Nodup → (∀ x ∈ l₁, x ∈ l₂) → l₁.length ≤ l₂.length
  | [], _, _, _ => Nat.zero_le _
  | a :: l, l₂, hn, hs => by
    have ha : a ∈ l₂ := hs a (.head _)
    have hn' := List.nodup_cons.mp hn
    have : l.length ≤ (l₂.erase a).length := nodup_sub_len hn'.2 fun x hx => by
      have hne : x ≠ a := fun e => hn'.1 (e ▸ hx)
      exact (List.mem_erase_of_ne hne).mpr (hs x (.tail _ hx))
    have h2 := List.length_erase_of_mem ha
    have h3 : 0 < l₂.length := List.length_pos_of_mem ha
    simp only [List.length_cons]
    omega

def cnt (X S : List Int) : Nat := X.countP fun x => decide (x ∈ S)
def cn2 (k : Int) (X S : List Int) : Nat := X.countP fun x => decide (x ≠ k ∧ x ∈ S)

theorem cnt_cons (k : Int) (S : List Int) : ∀ {X : List Int}, X.Nodup → cnt X (k :: S) = (if k ∈ X then 1 else 0) + cn2 k X S
  | [], _ => by simp [cnt, cn2]
  | a :: X, hn => by
    have hn' := List.nodup_cons.mp hn
    have ih := cnt_cons k S hn'.2
    unfold cnt cn2 at *
    rw [List.countP_cons, List.countP_cons, ih]
    by_cases e : a = k
    · subst e
      simp [hn'.1]
      omega
    · have e' : ¬ k = a := fun q => e q.symm
      simp [e, e']
      omega
theorem cnt_same (k : Int) (S : List Int) : ∀ {X : List Int}, X.Nodup → cnt X S = (if k ∈ X ∧ k ∈ S then 1 else 0) + cn2 k X S
  | [], _ => by simp [cnt, cn2]
  | a :: X, hn => by
    have hn' := List.nodup_cons.mp hn
    have ih := cnt_same k S hn'.2
    unfold cnt cn2 at *
    rw [List.countP_cons, List.countP_cons, ih]
    by_cases e : a = k
    · subst e
      by_cases hs : a ∈ S <;> simp [hn'.1, hs]
      omega
    · have e' : ¬ k = a := fun q => e q.symm
      by_cases hk : k ∈ X <;> by_cases hs : k ∈ S <;> simp [e, e', hk, hs] <;> omega
theorem cn2_sub {k : Int} {S X Y : List Int} (hn : X.Nodup) (hs : ∀ x ∈ X, x ∈ Y ∨ x = k) : cn2 k X S ≤ cn2 k Y S := by
  unfold cn2
  rw [List.countP_eq_length_filter, List.countP_eq_length_filter]
  refine nodup_sub_len (hn.sublist List.filter_sublist) fun x hx => ?_
  have h := List.mem_filter.mp hx
  have h2 : x ≠ k ∧ x ∈ S := by simpa using h.2
  refine List.mem_filter.mpr ⟨(hs x h.1).resolve_right h2.1, h.2⟩
theorem cn2_lt {k : Int} {S X : List Int} (hk : k ∈ X) : cn2 k X S + 1 ≤ X.length := by
  have h1 : cn2 k X S ≤ cn2 k (X.erase k) S + 0 := by
    unfold cn2
    have := (List.perm_cons_erase hk).countP_eq (fun x => decide (x ≠ k ∧ x ∈ S))
    rw [this, List.countP_cons]
    simp
  have h2 : cn2 k (X.erase k) S ≤ (X.erase k).length := List.countP_le_length
  have h3 := List.length_erase_of_mem hk
  have h4 := List.length_pos_of_mem hk
  omega

/-- one step of any cache: what is held after the ask of k -/
structure Pol (room : Nat) (k : Int) (P P' : List Int) : Prop where
  nodup : P'.Nodup
  has : k ∈ P'
  len : P'.length ≤ room
  sub : ∀ x ∈ P', x ∈ P ∨ x = k
/-- the best way's step where it must load -/
structure Far (room : Nat) (k : Int) (rest B B' : List Int) : Prop where
  nodup : B'.Nodup
  has : k ∈ B'
  len : B'.length ≤ room
  keep : ∀ t, (∀ x ∈ B, x ≠ k → x ∈ rest.take t → x ∈ B') ∨ (B'.length = room ∧ ∀ x ∈ B', x = k ∨ x ∈ rest.take t)

theorem cn2_full {k : Int} {S X : List Int} (hk : k ∈ X) (hn : X.Nodup) (h : ∀ x ∈ X, x = k ∨ x ∈ S) : cn2 k X S + 1 = X.length := by
  have h1 : cn2 k X S = cn2 k (X.erase k) S := by
    unfold cn2
    have := (List.perm_cons_erase hk).countP_eq (fun x => decide (x ≠ k ∧ x ∈ S))
    rw [this, List.countP_cons]
    simp
  have h2 : cn2 k (X.erase k) S = (X.erase k).length := by
    unfold cn2
    rw [List.countP_eq_length]
    intro x hx
    have hx' := (List.Nodup.mem_erase_iff hn).mp hx
    have := (h x hx'.2).resolve_left hx'.1
    simp [hx'.1, this]
  have h3 := List.length_erase_of_mem hk
  have h4 := List.length_pos_of_mem hk
  omega

theorem bel_step {room d c : Nat} {k : Int} {rest B B' P P' : List Int} (hB : B.Nodup) (hP : P.Nodup) (pol : Pol room k P P')
    (hD : ∀ t, cnt P ((k :: rest).take t) ≤ cnt B ((k :: rest).take t) + d)
    (far : (k ∈ B ∧ (∀ x, x ∈ B' ↔ x ∈ B) ∧ B'.Nodup ∧ c = 0) ∨ (k ∉ B ∧ Far room k rest B B' ∧ c = 1)) :
    ∃ d', c + d' ≤ (if k ∈ P then 0 else 1) + d ∧ ∀ t, cnt P' (rest.take t) ≤ cnt B' (rest.take t) + d' := by
  have hD' : ∀ t, (if k ∈ P then 1 else 0) + cn2 k P (rest.take t) ≤ (if k ∈ B then 1 else 0) + cn2 k B (rest.take t) + d := fun t => by
    have := hD (t + 1)
    rw [List.take_succ_cons, cnt_cons k _ hP, cnt_cons k _ hB] at this
    exact this
  have hP' : ∀ t, cn2 k P' (rest.take t) ≤ cn2 k P (rest.take t) := fun t => cn2_sub pol.nodup pol.sub
  have hl : ∀ t, cn2 k P' (rest.take t) + 1 ≤ room := fun t => Nat.le_trans (cn2_lt pol.has) pol.len
  rcases far with ⟨hk, hs, hn, rfl⟩ | ⟨hk, far, rfl⟩
  · have hB' : ∀ t, cn2 k B (rest.take t) ≤ cn2 k B' (rest.take t) := fun t => cn2_sub hB fun x hx => .inl ((hs x).mpr hx)
    have hk' : k ∈ B' := (hs k).mpr hk
    by_cases hp : k ∈ P
    · refine ⟨d, by simp [hp], fun t => ?_⟩
      have h1 := hD' t; have h2 := hP' t; have h3 := hB' t
      rw [cnt_same k _ pol.nodup, cnt_same k _ hn]
      simp only [pol.has, hk', hp, hk, if_true, true_and] at *
      omega
    · refine ⟨d + 1, by simp [hp]; omega, fun t => ?_⟩
      have h1 := hD' t; have h2 := hP' t; have h3 := hB' t
      rw [cnt_same k _ pol.nodup, cnt_same k _ hn]
      simp only [pol.has, hk', hp, hk, if_true, if_false, true_and] at *
      omega
  · have key : ∀ t, cn2 k B (rest.take t) ≤ cn2 k B' (rest.take t) ∨ cn2 k B' (rest.take t) + 1 = room := fun t => by
      rcases far.keep t with h | ⟨h1, h2⟩
      · left
        unfold cn2
        rw [List.countP_eq_length_filter, List.countP_eq_length_filter]
        refine nodup_sub_len (hB.sublist List.filter_sublist) fun x hx => ?_
        have h' := List.mem_filter.mp hx
        have h2 : x ≠ k ∧ x ∈ rest.take t := by simpa using h'.2
        exact List.mem_filter.mpr ⟨h x h'.1 h2.1 h2.2, h'.2⟩
      · right
        rw [cn2_full far.has far.nodup h2, h1]
    by_cases hp : k ∈ P
    · have h0 := hD' 0
      simp only [List.take_zero, hp, hk, if_true, if_false] at h0
      have e0 : ∀ X, cn2 k X [] = 0 := fun X => by unfold cn2; simp
      rw [e0, e0] at h0
      refine ⟨d - 1, by simp [hp]; omega, fun t => ?_⟩
      have h1 := hD' t; have h2 := hP' t; have h3 := key t; have h4 := hl t
      rw [cnt_same k _ pol.nodup, cnt_same k _ far.nodup]
      simp only [pol.has, far.has, hp, hk, if_true, if_false, true_and] at *
      omega
    · refine ⟨d, by simp [hp], fun t => ?_⟩
      have h1 := hD' t; have h2 := hP' t; have h3 := key t; have h4 := hl t
      rw [cnt_same k _ pol.nodup, cnt_same k _ far.nodup]
      simp only [pol.has, far.has, hp, hk, if_true, if_false, true_and] at *
      omega

end Mine
end
section
/-! Plain law for bb0016-02, second part: the runs of the two caches, and the stretches. -/
namespace Mine
open List

/-- the best way's states -/
inductive BelTo (room : Nat) (row : List Int) : Nat → List Int → Nat → Prop
  | zero : BelTo room row 0 [] 0
  | hit {i c k B} : BelTo room row i B c → row[i]? = some k → k ∈ B → BelTo room row (i + 1) B c
  | load {i c k B B'} : BelTo room row i B c → row[i]? = some k → k ∉ B → Far room k (row.drop (i + 1)) B B' → BelTo room row (i + 1) B' (c + 1)
/-- a cache's states -/
inductive PolTo (room : Nat) (row : List Int) : Nat → List Int → Nat → Prop
  | zero : PolTo room row 0 [] 0
  | hit {i c k P P'} : PolTo room row i P c → row[i]? = some k → k ∈ P → Pol room k P P' → PolTo room row (i + 1) P' c
  | load {i c k P P'} : PolTo room row i P c → row[i]? = some k → k ∉ P → Pol room k P P' → PolTo room row (i + 1) P' (c + 1)

theorem BelTo.nodup {room : Nat} {row : List Int} {i c : Nat} {B : List Int} (h : BelTo room row i B c) : B.Nodup := by
  induction h with
  | zero => exact List.nodup_nil
  | hit _ _ _ ih => exact ih
  | load _ _ _ f _ => exact f.nodup
theorem BelTo.len {room : Nat} {row : List Int} {i c : Nat} {B : List Int} (h : BelTo room row i B c) : B.length ≤ room := by
  induction h with
  | zero => exact Nat.zero_le _
  | hit _ _ _ ih => exact ih
  | load _ _ _ f _ => exact f.len
theorem PolTo.nodup {room : Nat} {row : List Int} {i c : Nat} {B : List Int} (h : PolTo room row i B c) : B.Nodup := by
  cases h with
  | zero => exact List.nodup_nil
  | hit _ _ _ f => exact f.nodup
  | load _ _ _ f => exact f.nodup

theorem drop_at {row : List Int} {i : Nat} {k : Int} (h : row[i]? = some k) : row.drop i = k :: row.drop (i + 1) := by
  obtain ⟨hl, e⟩ := List.getElem?_eq_some_iff.mp h
  rw [List.drop_eq_getElem_cons hl, e]

theorem bel_le {room : Nat} {row : List Int} : ∀ {i c l : Nat} {B P : List Int}, BelTo room row i B c → PolTo room row i P l →
    ∃ d, c + d ≤ l ∧ ∀ t, cnt P ((row.drop i).take t) ≤ cnt B ((row.drop i).take t) + d
  | 0, _, _, _, _, .zero, .zero => ⟨0, Nat.le_refl _, fun _ => Nat.le_refl _⟩
  | i + 1, _, _, _, _, hB, hP => by
    have key : ∀ {c₀ l₀ : Nat} {k : Int} {B₀ B' P₀ P' : List Int} {cc pp : Nat}, BelTo room row i B₀ c₀ → PolTo room row i P₀ l₀ → row[i]? = some k → Pol room k P₀ P' → (pp = if k ∈ P₀ then 0 else 1) →
        ((k ∈ B₀ ∧ (∀ x, x ∈ B' ↔ x ∈ B₀) ∧ B'.Nodup ∧ cc = 0) ∨ (k ∉ B₀ ∧ Far room k (row.drop (i + 1)) B₀ B' ∧ cc = 1)) →
        ∃ d, c₀ + cc + d ≤ l₀ + pp ∧ ∀ t, cnt P' ((row.drop (i + 1)).take t) ≤ cnt B' ((row.drop (i + 1)).take t) + d := by
      intro c₀ l₀ k B₀ B' P₀ P' cc pp b p hk pol hpp far
      obtain ⟨d, h1, h2⟩ := bel_le b p
      obtain ⟨d', h3, h4⟩ := bel_step b.nodup p.nodup pol (d := d) (rest := row.drop (i + 1)) (fun t => by rw [← drop_at hk]; exact h2 t) far
      exact ⟨d', by omega, h4⟩
    cases hB with
    | hit b hk hm =>
      have hn := b.nodup
      cases hP with
      | hit p hk' hm' pol =>
        cases hk.symm.trans hk'
        exact key (pp := 0) b p hk pol (by simp [hm']) (.inl ⟨hm, fun _ => Iff.rfl, hn, rfl⟩)
      | load p hk' hm' pol =>
        cases hk.symm.trans hk'
        exact key (pp := 1) b p hk pol (by simp [hm']) (.inl ⟨hm, fun _ => Iff.rfl, hn, rfl⟩)
    | load b hk hm far =>
      cases hP with
      | hit p hk' hm' pol =>
        cases hk.symm.trans hk'
        exact key (pp := 0) b p hk pol (by simp [hm']) (.inr ⟨hm, far, rfl⟩)
      | load p hk' hm' pol =>
        cases hk.symm.trans hk'
        exact key (pp := 1) b p hk pol (by simp [hm']) (.inr ⟨hm, far, rfl⟩)

theorem best_le {room : Nat} {row : List Int} {i c l : Nat} {B P : List Int} (b : BelTo room row i B c) (p : PolTo room row i P l) : c ≤ l := by
  obtain ⟨d, h, _⟩ := bel_le b p
  omega

/-! stretches -/
def Wide (room : Nat) (row : List Int) (p e : Nat) : Prop := ∃ s : List Int, s.Nodup ∧ room < s.length ∧ ∀ x ∈ s, ∃ j, p ≤ j ∧ j < e ∧ row[j]? = some x
theorem Wide.mono {room : Nat} {row : List Int} {p e e' : Nat} (h : Wide room row p e) (he : e ≤ e') : Wide room row p e' := by
  obtain ⟨s, a, b, c⟩ := h
  exact ⟨s, a, b, fun x hx => let ⟨j, h1, h2, h3⟩ := c x hx; ⟨j, h1, Nat.lt_of_lt_of_le h2 he, h3⟩⟩
def Stands (room : Nat) (row : List Int) (t : Nat) (ord : List Int) (p : Nat) : Prop :=
  p < t ∧ ∃ x, row[p]? = some x ∧ ((∃ u v, ord = u ++ x :: v ∧ ∀ y ∈ v, ∃ j, p ≤ j ∧ j < t ∧ row[j]? = some y) ∨ Wide room row p t)
structure Ldd (room : Nat) (row : List Int) (t : Nat) (ord : List Int) (loads : List Nat) : Prop where
  st : ∀ p ∈ loads, Stands room row t ord p
  apart : ∀ p ∈ loads, ∀ e ∈ loads, p < e → row[p]? = row[e]? → Wide room row p e
theorem Ldd.zero {room : Nat} {row : List Int} : Ldd room row 0 [] [] := ⟨fun _ h => (nomatch h), fun _ h => (nomatch h)⟩
theorem after_mono {row : List Int} {p t : Nat} {v : List Int} (h : ∀ y ∈ v, ∃ j, p ≤ j ∧ j < t ∧ row[j]? = some y) : ∀ y ∈ v, ∃ j, p ≤ j ∧ j < t + 1 ∧ row[j]? = some y :=
  fun y hy => let ⟨j, h1, h2, h3⟩ := h y hy; ⟨j, h1, Nat.lt_succ_of_lt h2, h3⟩
theorem Ldd.stay {room : Nat} {row : List Int} {t : Nat} {ord : List Int} {loads : List Nat} (h : Ldd room row t ord loads) : Ldd room row (t + 1) ord loads := by
  refine ⟨fun p hp => ?_, h.apart⟩
  · skip
    obtain ⟨h1, x, hx, h2⟩ := h.st p hp
    refine ⟨Nat.lt_succ_of_lt h1, x, hx, ?_⟩
    rcases h2 with ⟨u, v, e, hv⟩ | w
    · exact .inl ⟨u, v, e, after_mono hv⟩
    · exact .inr (w.mono (Nat.le_succ _))
theorem Ldd.touch {room : Nat} {row : List Int} {t : Nat} {ord : List Int} {loads : List Nat} {k : Int} (h : Ldd room row t ord loads) (hk : row[t]? = some k) (hm : k ∈ ord) : Ldd room row (t + 1) (ord.erase k ++ [k]) loads := by
  refine ⟨fun p hp => ?_, h.apart⟩
  · skip
    obtain ⟨h1, x, hx, h2⟩ := h.st p hp
    refine ⟨Nat.lt_succ_of_lt h1, x, hx, ?_⟩
    rcases h2 with ⟨u, v, e, hv⟩ | w
    · left
      subst e
      have last : ∃ j, p ≤ j ∧ j < t + 1 ∧ row[j]? = some k := ⟨t, Nat.le_of_lt h1, Nat.lt_succ_self _, hk⟩
      by_cases hu : k ∈ u
      · rw [List.erase_append_left _ hu]
        refine ⟨u.erase k, v ++ [k], by simp, fun y hy => ?_⟩
        rcases List.mem_append.mp hy with hy | hy
        · exact after_mono hv y hy
        · rw [List.mem_singleton.mp hy]; exact last
      · rw [List.erase_append_right _ hu]
        by_cases hxk : x = k
        · subst hxk
          rw [List.erase_cons_head]
          exact ⟨u ++ v, [], by simp, fun _ hy => nomatch hy⟩
        · rw [List.erase_cons_tail (by simpa using hxk)]
          refine ⟨u, v.erase k ++ [k], by simp, fun y hy => ?_⟩
          rcases List.mem_append.mp hy with hy | hy
          · exact after_mono hv y (List.mem_of_mem_erase hy)
          · rw [List.mem_singleton.mp hy]; exact last
    · exact .inr (w.mono (Nat.le_succ _))
theorem Ldd.load {room : Nat} {row : List Int} {t : Nat} {ord : List Int} {loads : List Nat} {k : Int} (h : Ldd room row t ord loads) (hn : ord.Nodup) (_hl : ord.length ≤ room) (hk : row[t]? = some k) (hm : k ∉ ord) :
    Ldd room row (t + 1) ((if ord.length = room then ord.tail else ord) ++ [k]) (loads ++ [t]) := by
  have last : ∀ p, p ≤ t → ∃ j, p ≤ j ∧ j < t + 1 ∧ row[j]? = some k := fun p hp => ⟨t, hp, Nat.lt_succ_self _, hk⟩
  refine ⟨fun p hp => ?_, fun p hp e he hlt heq => ?_⟩
  · rcases List.mem_append.mp hp with hp | hp
    · obtain ⟨h1, x, hx, h2⟩ := h.st p hp
      refine ⟨Nat.lt_succ_of_lt h1, x, hx, ?_⟩
      rcases h2 with ⟨u, v, e, hv⟩ | w
      · by_cases hfull : ord.length = room
        · rw [if_pos hfull]
          cases u with
          | nil =>
            right
            have e' : ord = x :: v := e
            refine ⟨ord ++ [k], ?_, by simp; omega, fun y hy => ?_⟩
            · rw [List.nodup_append]
              refine ⟨hn, by simp, fun a ha b hb => ?_⟩
              rw [List.mem_singleton.mp hb]
              exact fun q => hm (q ▸ ha)
            · rcases List.mem_append.mp hy with hy | hy
              · rw [e'] at hy
                rcases List.mem_cons.mp hy with rfl | hy
                · exact ⟨p, Nat.le_refl _, Nat.lt_succ_of_lt h1, hx⟩
                · exact after_mono hv y hy
              · rw [List.mem_singleton.mp hy]; exact last p (Nat.le_of_lt h1)
          | cons a u =>
            left
            refine ⟨u, v ++ [k], by rw [e]; simp, fun y hy => ?_⟩
            rcases List.mem_append.mp hy with hy | hy
            · exact after_mono hv y hy
            · rw [List.mem_singleton.mp hy]; exact last p (Nat.le_of_lt h1)
        · rw [if_neg hfull]
          left
          refine ⟨u, v ++ [k], by rw [e]; simp, fun y hy => ?_⟩
          rcases List.mem_append.mp hy with hy | hy
          · exact after_mono hv y hy
          · rw [List.mem_singleton.mp hy]; exact last p (Nat.le_of_lt h1)
      · exact .inr (w.mono (Nat.le_succ _))
    · rw [List.mem_singleton.mp hp]
      exact ⟨Nat.lt_succ_self _, k, hk, .inl ⟨_, [], rfl, fun _ hy => nomatch hy⟩⟩
  · have fresh : ∀ p ∈ loads, row[p]? = some k → Wide room row p t := fun p hp hpk => by
      obtain ⟨h1, x, hx, h2⟩ := h.st p hp
      rcases h2 with ⟨u, v, e, _⟩ | w
      · exfalso
        cases hx.symm.trans hpk
        exact hm (by rw [e]; simp)
      · exact w
    rcases List.mem_append.mp hp with hp | hp
    · rcases List.mem_append.mp he with he | he
      · exact h.apart p hp e he hlt heq
      · rw [List.mem_singleton.mp he] at heq ⊢
        exact fresh p hp (heq.trans hk)
    · rw [List.mem_singleton.mp hp] at hlt
      rcases List.mem_append.mp he with he | he
      · have := (h.st e he).1; omega
      · rw [List.mem_singleton.mp he] at hlt; omega

/-- the end of a turn of the inner check: a key loaded twice in a stretch makes the stretch wide -/
theorem stretch_no {room : Nat} {row S : List Int} {t b e p : Nat} {ord : List Int} {loads : List Nat} {k : Int} (h : Ldd room row t ord loads) (hp : p ∈ loads) (he : e ∈ loads) (hb : b ≤ p) (hlt : p < e)
    (hpk : row[p]? = some k) (hek : row[e]? = some k) (hS : ∀ j x, b ≤ j → j < e → row[j]? = some x → x ∈ S) : room < S.length := by
  obtain ⟨s, hn, hl, hs⟩ := h.apart p hp e he hlt (hpk.trans hek.symm)
  have := nodup_sub_len hn fun x hx => let ⟨j, h1, h2, h3⟩ := hs x hx; hS j x (Nat.le_trans hb h1) h2 h3
  omega

/-- the caches' own step -/
theorem pol_touch {room : Nat} {k : Int} {P : List Int} (hn : P.Nodup) (hl : P.length ≤ room) (hm : k ∈ P) : Pol room k P (P.erase k ++ [k]) := by
  have he := List.length_erase_of_mem hm
  have hp := List.length_pos_of_mem hm
  refine ⟨?_, by simp, by simp; omega, fun x hx => ?_⟩
  · rw [List.nodup_append]
    refine ⟨hn.sublist List.erase_sublist, by simp, fun a ha b hb => ?_⟩
    rw [List.mem_singleton.mp hb]
    exact ((List.Nodup.mem_erase_iff hn).mp ha).1
  · rcases List.mem_append.mp hx with hx | hx
    · exact .inl (List.mem_of_mem_erase hx)
    · exact .inr (List.mem_singleton.mp hx)
theorem pol_stay {room : Nat} {k : Int} {P : List Int} (hn : P.Nodup) (hl : P.length ≤ room) (hm : k ∈ P) : Pol room k P P := ⟨hn, hm, hl, fun _ hx => .inl hx⟩
theorem pol_load {room : Nat} {k : Int} {P : List Int} (hr : 0 < room) (hn : P.Nodup) (hl : P.length ≤ room) (hm : k ∉ P) : Pol room k P ((if P.length = room then P.tail else P) ++ [k]) := by
  have key : ∀ {R : List Int}, R.Nodup → (∀ x ∈ R, x ∈ P) → R.length < room → Pol room k P (R ++ [k]) := fun hR hs hlt => by
    refine ⟨?_, by simp, by simp; omega, fun x hx => ?_⟩
    · rw [List.nodup_append]
      refine ⟨hR, by simp, fun a ha b hb => ?_⟩
      rw [List.mem_singleton.mp hb]
      exact fun q => hm (q ▸ hs _ ha)
    · rcases List.mem_append.mp hx with hx | hx
      · exact .inl (hs x hx)
      · exact .inr (List.mem_singleton.mp hx)
  by_cases hf : P.length = room
  · rw [if_pos hf]
    refine key (hn.sublist (List.tail_sublist _)) (fun x hx => List.mem_of_mem_tail hx) ?_
    rw [List.length_tail]; omega
  · rw [if_neg hf]
    exact key hn (fun _ hx => hx) (by omega)
end Mine
end
section
/-! Plain law for bb0016-02, third part: the best way's step, as the program takes it. -/
namespace Mine
open List
/-- where x comes next, seen from i on; past the row's end where it comes no more -/
def nu (row : List Int) (i : Nat) (x : Int) : Int := if x ∈ row.drop i then ((row.drop i).idxOf x : Int) else (row.length : Int)
theorem nu_in {row : List Int} {i : Nat} {x : Int} (h : x ∈ row.drop i) : nu row i x = ((row.drop i).idxOf x : Int) := if_pos h
theorem nu_out {row : List Int} {i : Nat} {x : Int} (h : x ∉ row.drop i) : nu row i x = (row.length : Int) := if_neg h
theorem mem_take_of_idx {l : List Int} {x : Int} {t : Nat} (h : x ∈ l) (ht : l.idxOf x < t) : x ∈ l.take t := by
  have hl := List.idxOf_lt_length_iff.mpr h
  refine List.mem_take_iff_getElem.mpr ⟨l.idxOf x, by omega, ?_⟩
  exact List.getElem_idxOf hl
theorem idx_of_mem_take : ∀ {l : List Int} {x : Int} {t : Nat}, x ∈ l.take t → l.idxOf x < t
  | [], _, _, h => by simp at h
  | _ :: _, _, 0, h => by simp at h
  | a :: l, x, t + 1, h => by
    rw [List.idxOf_cons]
    by_cases hx : a = x
    · simp [hx]
    · have h' : x ∈ l.take t := by
        rw [List.take_succ_cons] at h
        exact (List.mem_cons.mp h).resolve_left fun q => hx q.symm
      have := idx_of_mem_take h'
      rw [beq_false_of_ne hx]
      simp only [cond_false]; omega
theorem near_ok {room i : Nat} {row B : List Int} {k : Int} (hB : B.Nodup) (hkB : k ∉ B) (hl : B.length < room) : Far room k (row.drop (i + 1)) B (B ++ [k]) := by
  refine ⟨?_, by simp, by simp; omega, fun t => .inl fun x hx _ _ => by simp [hx]⟩
  rw [List.nodup_append]
  refine ⟨hB, by simp, fun a ha b hb => ?_⟩
  rw [List.mem_singleton.mp hb]
  exact fun q => hkB (q ▸ ha)
theorem filter_ne_len {B : List Int} {M : Int} (hB : B.Nodup) (hM : M ∈ B) : (B.filter fun x => decide (x ≠ M)).length + 1 = B.length := by
  have e : (B.filter fun x => decide (x ≠ M)) = B.erase M := by
    rw [hB.erase_eq_filter]
    congr 1
    funext x
    by_cases h : x = M <;> simp [h]
  have := List.length_erase_of_mem hM
  have := List.length_pos_of_mem hM
  rw [e]; omega
theorem far_ok {room i : Nat} {row B : List Int} {k M : Int} (hk : row[i]? = some k) (hB : B.Nodup) (hkB : k ∉ B) (hl : B.length = room) (hM : M ∈ B)
    (hmax : ∀ x ∈ B, nu row i x < nu row i M ∨ (nu row i x = nu row i M ∧ x ≤ M)) : Far room k (row.drop (i + 1)) B (B.filter (fun x => decide (x ≠ M)) ++ [k]) := by
  have hd := drop_at hk
  have hlen := filter_ne_len hB hM
  refine ⟨?_, by simp, by simp at hlen ⊢; omega, fun t => ?_⟩
  · rw [List.nodup_append]
    refine ⟨hB.sublist List.filter_sublist, by simp, fun a ha b hb => ?_⟩
    rw [List.mem_singleton.mp hb]
    exact fun q => hkB (q ▸ (List.mem_filter.mp ha).1)
  · by_cases hMt : M ∈ (row.drop (i + 1)).take t
    · right
      refine ⟨by simp at hlen ⊢; omega, fun x hx => ?_⟩
      rcases List.mem_append.mp hx with hx | hx
      · right
        have hxB := (List.mem_filter.mp hx).1
        have hxk : x ≠ k := fun q => hkB (q ▸ hxB)
        have hMk : M ≠ k := fun q => hkB (q ▸ hM)
        have hMd : M ∈ row.drop i := by rw [hd]; exact List.mem_cons_of_mem _ (List.mem_of_mem_take hMt)
        have hMi : (row.drop i).idxOf M < t + 1 := idx_of_mem_take (by rw [hd, List.take_succ_cons]; exact List.mem_cons_of_mem _ hMt)
        have hML : (row.drop i).idxOf M < row.length := by
          have := List.idxOf_lt_length_iff.mpr hMd
          rw [List.length_drop] at this; omega
        have hle : nu row i x ≤ nu row i M := by
          rcases hmax x hxB with h | h
          · omega
          · omega
        rw [nu_in hMd] at hle
        by_cases hxd : x ∈ row.drop i
        · rw [nu_in hxd] at hle
          have := mem_take_of_idx hxd (t := t + 1) (by omega)
          rw [hd, List.take_succ_cons] at this
          exact (List.mem_cons.mp this).resolve_left hxk
        · rw [nu_out hxd] at hle; omega
      · exact .inl (List.mem_singleton.mp hx)
    · left
      intro x hx _ hxt
      refine List.mem_append_left _ (List.mem_filter.mpr ⟨hx, ?_⟩)
      have : x ≠ M := fun q => hMt (q ▸ hxt)
      simpa using this
end Mine
end
section
open PySem PySem.W PySem.Spec PySem.Calls PyProof.Rows
namespace Mine

/-- what a called def is handed: a heap g that stays, and its own objects, written out, which g does not know -/
def Fit (g : Heap) (own : List (Addr × Obj)) (h : Heap) : Prop :=
  g.StaysIn h ∧ g.objs.size ≤ h.objs.size ∧ ∀ p ∈ own, h.get? p.1 = some p.2 ∧ g.get? p.1 = none

/-- around a call: nothing handled, a bound on the depth and on the units -/
abbrev arnd (d u : Nat) (fr : List Env) (gs : Option (List Code)) : Around := { handled := none, depth := d, frames := some fr, guards := gs, units := u }

theorem code_up {M : Model} {A : Around} {c : Code} {R : Result → Shared → Prop} {s : Shared} {d u : Nat} {fr : List Env} (h : codeAny M (arnd d u fr A.guards) c R s)
    (hh : A.handled = none) (hf : A.frames = some fr) (hd : A.depth ≤ d) (hu : A.units ≤ u) : codeAny M A c R s := by
  intro Γ p hc hΓ
  refine h Γ p hc ⟨hΓ.1.trans hh, Nat.le_trans hΓ.2.1 hd, fun l hl => hΓ.2.2.1 l (hf.trans hl), fun g hg => hΓ.2.2.2.1 g hg, Nat.le_trans hΓ.2.2.2.2 hu⟩

theorem Fit.fr {g h h₁ : Heap} {own : List (Addr × Obj)} {m : Str → Option Value} (f : Fit g own h) (hns : h₁.Ns h.objs.size m) (hk : ∀ b o, h.get? b = some o → h₁.get? b = some o) :
    Fr g h.objs.size h₁ m ∧ News g h.objs.size h₁ own :=
  ⟨⟨hns, fun b o e => hk b o (f.1 b o e), f.2.1⟩, fun p hp => ⟨hk _ _ (f.2.2 p hp).1, Nat.ne_of_lt (Heap.lt_size (f.2.2 p hp).1), (f.2.2 p hp).2⟩⟩
theorem Fit.of {g h : Heap} {L : Addr} {m : Str → Option Value} {own news : List (Addr × Obj)} (F : Fr g L h m) (N : News g L h news) (ho : ∀ p ∈ own, p ∈ news) : Fit g own h :=
  ⟨F.keep, Nat.le_of_lt (Nat.lt_of_le_of_lt F.above F.ns.lt), fun p hp => ⟨(N p (ho p hp)).1, (N p (ho p hp)).2.2⟩⟩

section
variable {prog : Program} {w : World} {A A₀ : Around} {s : Shared} {base h₀ g : Heap} {fr outer : List Env} {env : Env} {L f : Addr} {m mg mb : Str → Option Value} {K : Frag} {p : Program} {loose : List Str} {mean : ExcName → Option Value} {own news : List (Addr × Obj)}
  {R : Result → Shared → Prop} {name qual : Str} {params : Arguments} {body : List Stmt} {scope : Scope} {dV kV doc pm cdv ct oc : Value} {an od : Option Addr} {osl : Array (Option Value)} {args : Args} {binds : List (Str × Value)}

theorem enter (X : K.In g) (T : Top p loose mean mg mb g) (ft : Fit g own s.heap)
    (ho : K.lookup f = some ⟨oc, od, .func (fnOf name qual params body scope dV kV doc pm an cdv ct), osl⟩) (hcd : codeIn K cdv qual = true) (hroom : A.depth < recursionLimit)
    (hbind : BindsTo s (fnOf name qual params body scope dV kV doc pm an cdv ct) args binds) (hloc : ∀ y ∈ binds, scope.names.lookup y.1 = some .local)
    (h : ∀ L' h₁, Fr g L' h₁ (fun y => binds.reverse.lookup y) → News g L' h₁ own →
      wpAny (model prog w) (A.deeper (envOf qual scope L' f cdv)) (execs body (envOf qual scope L' f cdv))
        (fun fl s' => R (.ok (.ret (match fl with | .ret v => v | _ => .none))) s')
        (fun e s' => wpAny (model prog w) (A.deeper (envOf qual scope L' f cdv)) (leaving (envOf qual scope L' f cdv) e) (fun _ s'' => R (.error e) s'') (fun e' s'' => R (.error e') s'') s')
        { s with heap := h₁, toks := s.toks + binds.length })
    (hco : scope.isCoroutine = false) (hgen : scope.isGenerator = false) (hk : scope.kind = .function)
    (hcell : ∀ x ∈ scope.names, x.2 ≠ .cell) : codeAny (model prog w) A (.call (.ref f) args) R s := by
  have X' := X.keeps ft.1
  refine codeAny_call_def (fd := fnOf name qual params body scope dV kV doc pm an cdv ct) (body := body) (binds := binds) hroom (X' _ _ ho) rfl (T.nolimit.keeps ft.1) (codeRec_of X' hcd) rfl hbind hcell hloc (fun h₁ hns hk₁ => ?_) hco hgen hk
  obtain ⟨F, N⟩ := ft.fr hns hk₁
  exact h _ h₁ F N

theorem hand {P : Prop} (B : Below A₀ base outer h₀) (F : Fr h₀ L s.heap m) (X : K.In h₀) (N : News h₀ L s.heap news) (T : Top p loose mean mg mb h₀) (hA : A.frames = some (env :: outer)) (hf : env.frame = some L) (hke : env.scope.kind = .function)
    (own rest : List (Addr × Obj)) (ho : ∀ q ∈ own, q ∈ news) (hr : ∀ q ∈ rest, q ∈ news) (hne : ∀ q ∈ rest, q.1 ∉ own.map (·.1))
    (k : ∀ g, Fit g own s.heap → Below A base (env :: outer) g → K.In g → Top p loose mean mg mb g → (∀ h' own', Fit g own' h' → Fr h₀ L h' m ∧ News h₀ L h' (own' ++ rest)) → P) : P := by
  have No : News h₀ L s.heap own := fun q hq => N q (ho q hq)
  obtain ⟨FG, BG, st, _⟩ := groundX (A := A) (R := fun _ _ => True) B F No hA hf hke
  refine k (hideAll s.heap (own.map (·.1))) ⟨fun b o e => of_hideAll _ e, Nat.le_of_eq (hideAll_size _ _), fun q hq => ⟨(No q hq).1, hideAll_none _ (List.mem_map_of_mem hq)⟩⟩ BG (X.keeps fun b o e => st b o e) (T.keeps fun b o e => st b o e) fun h' own' ft => ⟨⟨?_, fun b o e => ft.1 b o (FG.keep b o e), FG.above⟩, fun q hq => ?_⟩
  · obtain ⟨oL, es, ep, hL, r⟩ := FG.ns
    exact ⟨oL, es, ep, ft.1 _ _ hL, r⟩
  · rcases List.mem_append.mp hq with hq | hq
    · have z := ft.2.2 q hq
      refine ⟨z.1, fun e => ?_, ?_⟩
      · obtain ⟨oL, es, ep, hL, _⟩ := FG.ns
        rw [e, hL] at z; exact nomatch z.2
      · cases e : h₀.get? q.1 with
        | none => rfl
        | some o => have := FG.keep _ _ e; rw [z.2] at this; exact nomatch this
    · have z := N q (hr q hq)
      exact ⟨ft.1 _ _ (hideAll_get _ z.1 (hne q hq)), z.2⟩
end
end Mine
end
section
open PySem PySem.W PySem.Spec PySem.Calls PyProof.Rows
namespace Mine
section
variable {prog : Program} {w : World} {A : Around} {E : Value → Shared → Prop} {s : Shared} {K : Frag} {x C p L : Addr} {ox : Obj} {name : Str} {expr : Bool} {h₀ : Heap} {m : Str → Option Value} {es : List DictEntry} {n : Nat} {Q : Value → Shared → Prop} {f : Value} {rest : List Value}
theorem get_sm (F : Fr h₀ L s.heap m) (X₀ : K.In h₀) (I : InstAt s.heap x ox C (some (dictOf es n))) (hg : plainGet K C name = true) (hh : hasDictIn K C = true)
    (ha : findIn K (.ref C) name = some (some (.ref p))) (hgf : specialIn K (.ref p) "__get__" = some (some (.builtin "staticmethod.__get__"))) (ht : takesIn K (.ref p) = some false) (hc : copiedNames.contains name = false) (hl : getL name es = some none)
    (hp : recIn K p "staticmethod" = some (f :: rest)) (hv : handedIn f = true) (h : Q f { s with toks := s.toks + 1 }) : wpAny (model prog w) A (getAttr (.ref x) name expr) Q E s :=
  get_bind (X₀.keeps F.keep) I (plainGet_of hg).1 (findObj_fn hh ha hgf ht hc (by show lookIn name (dictOf es n) = _; rw [lookIn_dict, hl])) (plainGet_of hg).2
    (wpAny_call (sm_get (s := { s with toks := s.toks + 1 }) (X₀.keeps F.keep) hp (handed_on hv h)))
end
end Mine
namespace Mine
open PyProof.V
section
variable {K : Type} [DecidableEq K]
theorem without_len (kvs : List (K × Value)) (k : K) : (without kvs k).length ≤ kvs.length := List.length_filter_le _ _
theorem stored_len (kvs : List (K × Value)) (k : K) (v : Value) : (stored kvs k v).length ≤ kvs.length + 1 := by
  unfold stored
  split
  · simp
  · simp
end
section
variable {prog : Program} {w : World} {K : Type} [DecidableEq K] {knd : KeyKind prog w K} {A : Around} {E : Value → Shared → Prop} {s : Shared} {h₀ : Heap} {L d : Addr} {m : Str → Option Value} {news : List (Addr × Obj)} {g : Obj → List (Addr × Obj)} {o : Obj} {kvs : List (K × Value)} {k : K} {key v : Value}
theorem dk_del {Q : Unit → Shared → Prop} (F : Fr h₀ L s.heap m) (N : News h₀ L s.heap news) (U : UpdF d o news g) (hd : o.IsDictOf knd kvs) (hkey : knd.is k key = true) (hl : (valueAt kvs k).isSome = true) (hsz : kvs.length ≤ 16777216)
    (h : ∀ h' o', Fr h₀ L h' m → News h₀ L h' (g o') → o'.IsDictOf knd (without kvs k) → Q () { s with heap := h', toks := s.toks + 1 }) : wpAny (model prog w) A (delItem (.ref d) key) Q E s := by
  obtain ⟨pre, post, rfl, hg, h1, h2⟩ := U.split
  have hm := N (d, o) (List.mem_append_right _ (.head _))
  have hD : s.heap.DictOf knd d kvs := Heap.dictOf_iff.mpr ⟨o, hm.1, hd⟩
  unfold delItem
  try with_reducible refine wpAny_holding ?_
  refine wpAny_bind (wpAny_sequenceKey hD.typeIs (by decide) ?_)
  refine wpAny_bind (wpAny_callSpecial?_slot (name := Str.ofString "__delitem__") hD.typeIs PySem.F.slot_dict_delitem
    (call_meetsIn PySem.F.slot_dict_delitem hD.typeIs PySem.F.entry_dict_delitem (PySem.F.args_dict_delitem_2 _ _) (meets_dict_delitem_pairs knd d hkey) ⟨kvs, hD, by rw [sizeLine_eq]; exact hsz, hl, fun h' hmm hs => ?_⟩))
  obtain ⟨o', ho', hd'⟩ := Heap.dictOf_iff.mp hmm
  exact wpAny_pure (h h' o' (F.change hs hm.2.1 hm.2.2) (hg o' ▸ N.setIn h1 h2 hs ho') hd')
theorem dk_pop {more : List Value} {Q : Value → Shared → Prop} (hmore : more = [] ∨ ∃ x, more = [x]) (hpart : (keyPart key).isSome = true) (hargs : argsOk "dict.pop" ⟨.ref d :: key :: more, []⟩)
    (F : Fr h₀ L s.heap m) (N : News h₀ L s.heap news) (U : UpdF d o news g) (hd : o.IsDictOf knd kvs) (hkey : knd.is k key = true) (hl : valueAt kvs k = some v) (hsz : kvs.length ≤ 16777216)
    (h : ∀ h' o', Fr h₀ L h' m → News h₀ L h' (g o') → o'.IsDictOf knd (without kvs k) → Q v { s with heap := h', toks := s.toks + 1 }) : wpAny (model prog w) A (call (.builtin "dict.pop") (.ref d :: key :: more)) Q E s := by
  obtain ⟨pre, post, rfl, hg, h1, h2⟩ := U.split
  have hm := N (d, o) (List.mem_append_right _ (.head _))
  have hD : s.heap.DictOf knd d kvs := Heap.dictOf_iff.mpr ⟨o, hm.1, hd⟩
  refine call_meetsIn PySem.F.slot_dict_pop hD.typeIs PySem.F.entry_dict_pop hargs (meets_dict_pop_there knd d hkey more hmore hpart) ⟨kvs, v, hD, by rw [sizeLine_eq]; exact hsz, hl, fun h' hmm hs => ?_⟩
  obtain ⟨o', ho', hd'⟩ := Heap.dictOf_iff.mp hmm
  exact h h' o' (F.change hs hm.2.1 hm.2.2) (hg o' ▸ N.setIn h1 h2 hs ho') hd'
theorem dk_popMiss {Q : Value → Shared → Prop} (hh : A.handled = none) (hpart : (keyPart key).isSome = true) (hargs : argsOk "dict.pop" ⟨[.ref d, key], []⟩) (N : News h₀ L s.heap news) (hp : (d, o) ∈ news) (hd : o.IsDictOf knd kvs)
    (hlo : (d == sysModules) = false) (hkey : knd.is k key = true) (hl : valueAt kvs k = none) (h : ∀ h' e, Heap.NewExc s.heap h' e "KeyError" → E (.ref e) { s with heap := h', toks := s.toks + 1 }) : wpAny (model prog w) A (call (.builtin "dict.pop") [.ref d, key]) Q E s :=
  have hD : s.heap.DictOf knd d kvs := Heap.dictOf_iff.mpr ⟨o, (N (d, o) hp).1, hd⟩
  call_meetsIn PySem.F.slot_dict_pop hD.typeIs PySem.F.entry_dict_pop hargs (meets_dict_pop_missing knd d hkey hlo hpart) ⟨hh, kvs, hD, hl, fun h' e x => h h' e x⟩
theorem dk_popMeth {pl : Sem Bool} {Q : Value × List Value → Shared → Prop} (N : News h₀ L s.heap news) (hp : (d, o) ∈ news) (hd : o.IsDictOf knd kvs) (h : Q (.builtin "dict.pop", [.ref d]) s) : wpAny (model prog w) A (getMethod (.ref d) "pop" pl) Q E s :=
  have hD := kda_dict N hp hd
  getMethod_builtin hD.typeIs PySem.F.plainAttrs_dict PySem.F.slot_dict_pop PySem.F.type_dict_pop hD.mapOf.noDict h
theorem dk_get {Q : Value → Shared → Prop} (N : News h₀ L s.heap news) (hp : (d, o) ∈ news) (hd : o.IsDictOf knd kvs) (hkey : knd.is k key = true) (hl : valueAt kvs k = some v) (h : Q v { s with toks := s.toks + 1 }) :
    wpAny (model prog w) A (getItem (.ref d) key) Q E s := wpAny_getItem_of hkey (kda_dict N hp hd).mapOf hl h
end
end Mine
namespace Mine
section
variable {M : Model} {A : Around} {E : Value → Shared → Prop} {s : Shared} {K : Frag} {x C L f : Addr} {h₀ : Heap} {m : Str → Option Value} {ox : Obj} {od : Option Obj} {i : Value}
theorem del_own {Q : Unit → Shared → Prop} (F : Fr h₀ L s.heap m) (X₀ : K.In h₀) (I : InstAt s.heap x ox C od) (hq : noSeq K C = true) (hs : findIn K (.ref C) "__delitem__" = some (some (.ref f))) (hf : isFn K (.ref f) = true)
    (h : wpAny M A (call (.ref f) [.ref x, i]) (fun _ s' => Q () s') E s) : wpAny M A (delItem (.ref x) i) Q E s := by
  have X := X₀.keeps F.keep
  unfold delItem sequenceKey
  refine wpAny_holding (wpAny_bind (wpAny_bind (I.type.here ?_)))
  refine wpAny_bind ((anyM_none X hq).here ?_)
  rw [if_pos (show (!false) = true from rfl)]
  exact wpAny_pure (wpAny_bind (special_fn X I hs (beq_iff_eq.mp hf) (wpAny_mono h (fun _ _ z => wpAny_pure z) fun _ _ z => z)))
end
end Mine
namespace Mine
section
variable {K : Type} [DecidableEq K]
theorem valueAt_head (k : K) (v : Value) (r : List (K × Value)) : valueAt ((k, v) :: r) k = some v := by simp [valueAt]
theorem isSome_of {α : Type} {o : Option α} {v : α} (h : o = some v) : o.isSome = true := by rw [h]; rfl
end
end Mine
namespace Mine
theorem isNone_of {α : Type} {o : Option α} (h : o = none) : o.isSome = false := by rw [h]; rfl
end Mine
namespace Mine
section
variable {A A₀ : Around} {s : Shared} {base h₀ : Heap} {outer : List Env} {env : Env} {L : Addr} {m mg mb : Str → Option Value} {K : Frag} {p : Program} {loose : List Str} {mean : ExcName → Option Value} {news : List (Addr × Obj)}
theorem hand0 {P : Prop} (B : Below A₀ base outer h₀) (F : Fr h₀ L s.heap m) (X : K.In h₀) (N : News h₀ L s.heap news) (T : Top p loose mean mg mb h₀) (hA : A.frames = some (env :: outer)) (hf : env.frame = some L) (hke : env.scope.kind = .function)
    (k : ∀ g, Fit g news s.heap → Below A base (env :: outer) g → K.In g → Top p loose mean mg mb g → (∀ h' own', Fit g own' h' → Fr h₀ L h' m ∧ News h₀ L h' own') → P) : P :=
  hand (A := A) B F X N T hA hf hke news [] (fun _ h => h) (fun _ h => (nomatch h)) (fun _ h => (nomatch h)) fun g a b c d e => k g a b c d fun h' own' ft => by
    have := e h' own' ft
    rw [List.append_nil] at this
    exact this
theorem Fit.sub {g h : Heap} {L : Addr} {m : Str → Option Value} {own news : List (Addr × Obj)} (F : Fr g L h m) (N : News g L h news) (ho : SubL own news) : Fit g own h := Fit.of F N ho.mem
theorem below_up {A : Around} {base g : Heap} {fr : List Env} {d u : Nat} (B : Below A base fr g) : Below (arnd d u fr A.guards) base fr g := ⟨rfl, B.stays, B.frames⟩
end
end Mine
end
section
open PySem PySem.W PySem.Spec PySem.Calls PyProof.Rows
namespace Mine
/-- h where P says so, with room for n objects -/
def restr (n : Nat) (P : Addr → Bool) (h : Heap) : Heap := ⟨Array.ofFn (n := n) fun i => if P i.val then (h.objs[i.val]?).getD { cls := .none, data := .freed } else { cls := .none, data := .freed }, h.life⟩
theorem restr_size (n : Nat) (P : Addr → Bool) (h : Heap) : (restr n P h).objs.size = n := by simp [restr]
theorem restr_get {n : Nat} {P : Addr → Bool} {h : Heap} {b : Addr} : (restr n P h).get? b = if b < n ∧ P b = true then h.get? b else none := by
  unfold restr Heap.get?
  by_cases hb : b < n
  · by_cases hp : P b = true
    · rw [if_pos ⟨hb, hp⟩]
      simp only [Array.getElem?_ofFn, hb, dif_pos, hp, if_true]
      cases h.objs[b]? with
      | none => rfl
      | some o => rfl
    · rw [if_neg (fun x => hp x.2)]
      simp only [Array.getElem?_ofFn, hb, dif_pos, hp]
      rfl
  · rw [if_neg (fun x => hb x.1)]
    simp only [Array.getElem?_ofFn, hb, dif_neg, not_false_eq_true]
/-- the same heap, but for the marks that a raise leaves on the frames' dicts -/
structure Up (base : Heap) (fr : List Env) (g g' : Heap) : Prop where
  stays : base.StaysIn g'
  size : g'.objs.size = g.objs.size
  none : ∀ b, g.get? b = none → g'.get? b = none
  up : g.UpToSlots g'
  frames : g'.FunFrames base fr
theorem Up.refl {A : Around} {base g : Heap} {fr : List Env} (B : Below A base fr g) : Up base fr g g := ⟨B.stays, rfl, fun _ e => e, Heap.UpToSlots.refl g, B.frames⟩
theorem Up.trans {base g₁ g₂ g₃ : Heap} {fr : List Env} (x : Up base fr g₁ g₂) (y : Up base fr g₂ g₃) : Up base fr g₁ g₃ := ⟨y.stays, y.size.trans x.size, fun b e => y.none b (x.none b e), x.up.trans y.up, y.frames⟩
theorem Up.below {A : Around} {base g g' : Heap} {fr : List Env} (u : Up base fr g g') (B : Below A base fr g) : Below A base fr g' := ⟨B.stack, u.stays, u.frames⟩

/-- h₀ as it stands in h' -/
def asNow (h₀ h' : Heap) : Heap := restr h₀.objs.size (fun b => (h₀.get? b).isSome) h'
theorem asNow_get {h₀ h' : Heap} {b : Addr} : (asNow h₀ h').get? b = if (h₀.get? b).isSome = true then h'.get? b else none := by
  unfold asNow
  rw [restr_get]
  by_cases hs : (h₀.get? b).isSome = true
  · obtain ⟨o, ho⟩ := Option.isSome_iff_exists.mp hs
    rw [if_pos ⟨Heap.lt_size ho, hs⟩, if_pos hs]
  · rw [if_neg (fun x => hs x.2), if_neg hs]
theorem asNow_some {h₀ h' : Heap} {b : Addr} {o o' : Obj} (h : h₀.get? b = some o) (q : h'.get? b = some o') : (asNow h₀ h').get? b = some o' := by
  rw [asNow_get, if_pos (by rw [h]; rfl)]; exact q
theorem asNow_keep {h₀ h' : Heap} {b : Addr} {o : Obj} (h : (asNow h₀ h').get? b = some o) : h'.get? b = some o := by
  rw [asNow_get] at h
  split at h
  · exact h
  · cases h
theorem asNow_none {h₀ h' : Heap} {b : Addr} (h : h₀.get? b = none) : (asNow h₀ h').get? b = none := by
  rw [asNow_get, if_neg (by rw [h]; exact Bool.false_ne_true)]
theorem asNow_up {base h₀ h' : Heap} {outer l : List Env} (hb : base.StaysIn h₀) (hs : base.StaysIn h') (hu : h₀.UpToSlots h') (hf : h'.FunFrames base outer) (h0f : h₀.FunFrames base outer) : Up base outer h₀ (asNow h₀ h') := by
  refine ⟨fun b o e => asNow_some (hb b o e) (hs b o e), restr_size _ _ _, fun b e => asNow_none e, fun b o e hn => ?_, ?_⟩
  · obtain ⟨sl, q⟩ := hu b o e hn
    exact ⟨sl, asNow_some e q⟩
  · clear l
    induction outer with
    | nil => trivial
    | cons env r ih =>
      obtain ⟨hk, ⟨L, o, hf1, hn, ho, hd⟩, hr⟩ := hf
      obtain ⟨_, ⟨L₂, o₂, hf2, _, ho2, _⟩, hr2⟩ := h0f
      cases hf1.symm.trans hf2
      exact ⟨hk, ⟨L, o, hf1, hn, asNow_some ho2 ho, hd⟩, ih hr hr2⟩

section
variable {A A₀ : Around} {s : Shared} {base h₀ : Heap} {outer : List Env} {env : Env} {L : Addr} {m : Str → Option Value} {news : List (Addr × Obj)}
/-- a call that may mark the frames: what it's handed, and what comes back -/
theorem handU {P : Prop} (B : Below A₀ base outer h₀) (sz : base.objs.size ≤ h₀.objs.size) (F : Fr h₀ L s.heap m) (N : News h₀ L s.heap news) (hA : A.frames = some (env :: outer)) (hf : env.frame = some L) (hke : env.scope.kind = .function)
    (k : ∀ g, Fit g news s.heap → Below A base (env :: outer) g → base.objs.size ≤ g.objs.size →
      (∀ g' h' own', Up base (env :: outer) g g' → Fit g' own' h' → ∃ h₁, Up base outer h₀ h₁ ∧ Below A₀ base outer h₁ ∧ Fr h₁ L h' m ∧ News h₁ L h' own') → P) : P := by
  obtain ⟨FG, BG, st, _⟩ := groundX (A := A) (R := fun _ _ => True) B F N hA hf hke
  have hsz : (hideAll s.heap (news.map (·.1))).objs.size = s.heap.objs.size := hideAll_size _ _
  refine k (hideAll s.heap (news.map (·.1))) ⟨fun b o e => of_hideAll _ e, Nat.le_of_eq hsz, fun q hq => ⟨(N q hq).1, hideAll_none _ (List.mem_map_of_mem hq)⟩⟩ BG ?_ fun g' h' own' u ft => ?_
  · rw [hsz]; exact Nat.le_trans sz (Nat.le_of_lt (Nat.lt_of_le_of_lt F.above F.ns.lt))
  · have u1 : Up base outer h₀ (asNow h₀ g') := asNow_up (l := []) B.stays u.stays (fun b o e hn => u.up b o (FG.keep b o e) hn) u.frames.2.2 B.frames
    refine ⟨asNow h₀ g', u1, u1.below B, ⟨?_, fun b o e => ft.1 b o (asNow_keep e), by rw [u1.size]; exact FG.above⟩, fun q hq => ?_⟩
    · obtain ⟨oL, es, ep, hL, hd, r⟩ := FG.ns
      obtain ⟨sl, q⟩ := u.up L oL hL fun vs z => by rw [hd] at z; cases z
      exact ⟨_, es, ep, ft.1 _ _ q, hd, r⟩
    · have z := ft.2.2 q hq
      refine ⟨z.1, fun e => ?_, ?_⟩
      · obtain ⟨oL, es, ep, hL, hd, r⟩ := FG.ns
        obtain ⟨sl, qq⟩ := u.up L oL hL fun vs z => by rw [hd] at z; cases z
        rw [e, qq] at z; exact nomatch z.2
      · cases e : h₀.get? q.1 with
        | none => exact asNow_none e
        | some o => rw [asNow_get, e]; exact z.2
end

section
variable {prog : Program} {w : World} {A₀ : Around} {E : Value → Shared → Prop} {s' : Shared} {base h₀ h : Heap} {outer : List Env} {L a e : Addr} {m : Str → Option Value} {name : Str} {scope : Scope} {cd : Value}
  {b₀ : Stmt} {suite : List Stmt} {pos np : Pos} {rest : List ExceptHandler} {Q : Flow → Shared → Prop} {news : List (Addr × Obj)}
  {p : Program} {loose : List Str} {mean : ExcName → Option Value} {mg mb : Str → Option Value} {x : Str} {X T' : String} {Kf : Frag}
/-- an exception that a built-in raises, caught by the frame's own try -/
theorem caught_new (K : Below A₀ base outer h₀) (hx : Heap.NewExc h s'.heap e X) (F : Fr h₀ L h m) (N : News h₀ L h news)
    (X0 : Kf.In base) (T : Top p loose mean mg mb base) (e0 : nsIn Kf mainGlobals x = some none) (hv : bootBuiltins x = some (.type T'))
    (hexc : isSubtype (.type T') (.type "BaseException") = pure true) (hnt : isSubtype (.type ((Manifest.find? T').elim "type" fun y => y.metatype)) (.type "tuple") = pure false) (hsub : isSubtype (.type X) (.type T') = pure true)
    (k : ∀ h₁ h', Up base outer h₀ h₁ → Below A₀ base outer h₁ → Fr h₁ L h' m → News h₁ L h' news →
      wpAny (model prog w) ((A₀.deeper (envOf name scope L a cd)).mark (some (.ref e))) (execs (b₀ :: suite) (envOf name scope L a cd)) Q E { s' with heap := h' })
    (hn : x ≠ "__name__" := by decide +kernel)
    (hk : scope.kind = .function := by rfl) (hxk : (envOf name scope L a cd).kindOf x = some .globalImplicit := by rfl) (hd : (x == ("__debug__" : Str)) = false := by decide)
    (hE : PassesOwnAt (model prog w) ((A₀.deeper (envOf name scope L a cd)).mark (some (.ref e))) (A₀.deeper (envOf name scope L a cd)) (envOf name scope L a cd) E := by passes_own) :
    wpAny (model prog w) (A₀.deeper (envOf name scope L a cd)) (noteFrame (.ref e) (envOf name scope L a cd))
      (fun _ s₂ => wpAny (model prog w) (A₀.deeper (envOf name scope L a cd)) (setFlight (.ref e) none) (fun _ s₃ =>
        wpAny (model prog w) (A₀.deeper (envOf name scope L a cd)) (handleBy (.ref e) (envOf name scope L a cd) (.ExceptHandler (some (.Name x np)) none (b₀ :: suite) pos :: rest)) Q E s₃) E s₂) E s' := by
  have K' := K.push (name := name) (a := a) (cd := cd) F hk
  have hin : ∀ env ∈ (envOf name scope L a cd :: outer), ∀ b, env.frame = some b → b ∈ (envOf name scope L a cd :: outer).filterMap (·.frame) := fun env he b hb => List.mem_filterMap.mpr ⟨env, he, hb⟩
  obtain ⟨ob, tp, he, hcls, hdd⟩ := hx.there
  have hen : (hideAll h ((envOf name scope L a cd :: outer).filterMap (·.frame))).get? e = none := by
    cases q : (hideAll h ((envOf name scope L a cd :: outer).filterMap (·.frame))).get? e with
    | none => rfl
    | some o => have := of_hideAll _ q; rw [hx.new] at this; cases this
  have hff : s'.heap.FunFrames (hideAll h ((envOf name scope L a cd :: outer).filterMap (·.frame))) (envOf name scope L a cd :: outer) := (funFrames_hide K'.frames hin).of_keeps fun b o hb _ => ⟨o, hx.keeps b o hb, rfl⟩
  have bst : ∀ b o, base.get? b = some o → (hideAll h ((envOf name scope L a cd :: outer).filterMap (·.frame))).get? b = some o := fun b o q => hideAll_get _ (K'.stays b o q) fun hm => by
    rw [(K'.frames.mem hm).1] at q; cases q
  unfold noteFrame
  simp only [show (envOf name scope L a cd).frame = some L from rfl]
  refine wpAny_bind (wpAny_field he hdd (x := .none) rfl ?_)
  rw [if_neg (by decide)]
  refine wpAny_entryW (a0 := tp) (Around.frames_deeper K.stack) hff rfl he (fun b o hb => hx.keeps b o (of_hideAll _ hb)) hen hdd (by show 1 < 6; decide) rfl fun h₁ hN => ?_
  obtain ⟨n1, n2, n3, n4⟩ := hN
  refine wpAny_landsW (s := { s' with heap := h₁ }) ⟨n1, hen, n2, n3⟩ fun h₂ hf₂ sm₂ => ?_
  have sm₁₂ : s'.heap.UpToSlots h₂ := (show s'.heap.UpToSlots h₁ from n4).trans sm₂
  have smh : h.UpToSlots h₂ := (Heap.UpToSlots.of_keeps hx.keeps).trans sm₁₂
  have F₂ : Fr (asNow h₀ h₂) L h₂ m := ⟨smh.ns F.ns, fun b o q => asNow_keep q, by rw [show (asNow h₀ h₂).objs.size = h₀.objs.size from restr_size _ _ _]; exact F.above⟩
  have T₂ : Top p loose mean mg mb (asNow h₀ h₂) := T.keeps fun b o q => asNow_some (K.stays b o q) (hf₂.1 b o (bst b o q))
  obtain ⟨ob₂, hob₂, hobc₂⟩ := hf₂.there
  refine wpAny_handleBy_builtin (X := X) (T := T') (b := true) hexc hnt hsub (ld_builtin_at F₂ T₂.g (mg_none_of X0 T.g e0) T₂.b ((T₂.builtins x hn).trans hv) ⟨rfl, ⟨ob₂, hob₂, hobc₂.trans hcls⟩, ?_⟩ hk hxk hd)
  refine lands_againW hf₂ fun h₆ hf₆ sm₆ => ?_
  have sm' : h.UpToSlots h₆ := smh.trans sm₆
  have st6 : base.StaysIn h₆ := fun b o q => hf₆.1 b o (bst b o q)
  have F₆ : Fr (asNow h₀ h₆) L h₆ m := ⟨sm'.ns F.ns, fun b o q => asNow_keep q, by rw [show (asNow h₀ h₆).objs.size = h₀.objs.size from restr_size _ _ _]; exact F.above⟩
  have u : Up base outer h₀ (asNow h₀ h₆) := asNow_up (l := []) K.stays st6 (fun b o q hn => sm' b o (F.keep b o q) hn) (flyingW_base bst hf₆).2.2.1.2.2 K.frames
  exact wpAny_passesOwnAt hE (k _ h₆ u (u.below K) F₆ fun q hq => ⟨hf₆.1 _ _ (hideAll_get _ (N q hq).1 fun hm => by
    obtain ⟨env, he, hf⟩ := List.mem_filterMap.mp hm
    rcases List.mem_cons.mp he with rfl | he
    · exact (N q hq).2.1 (Option.some.inj hf).symm
    · obtain ⟨o, ho, _⟩ := (K.frames.mem (List.mem_filterMap.mpr ⟨env, he, hf⟩)).2
      rw [(N q hq).2.2] at ho; cases ho), (N q hq).2.1, asNow_none (N q hq).2.2⟩)
end
end Mine
end
section
open PySem PySem.W PySem.Spec PySem.Calls PyProof.Rows
namespace Mine
/-- where a cache lies: its object, its dict, the dicts of its data and of its order; the marks of its attributes; its room -/
structure Loc where
  x : Addr
  dx : Addr
  d1 : Addr
  d2 : Addr
  ta : Tok
  tb : Tok
  tc : Tok
  td : Tok
  tf : Tok
  mx : Int
/-- a cache's four objects, written out -/
def led (P : Params) (C : Addr) (on : Str) (c : Loc) (cur : Int) (te : Tok) (o1 o2 : Obj) : List (Addr × Obj) :=
  [(c.x, instObj C c.dx), (c.dx, dictOf [⟨PyData.keyHash P (Str.ofString "_Cache__data"), .str (Str.ofString "_Cache__data") c.ta, .ref c.d1⟩, ⟨PyData.keyHash P (Str.ofString "_Cache__currsize"), .str (Str.ofString "_Cache__currsize") c.tb, .int cur te⟩, ⟨PyData.keyHash P (Str.ofString "_Cache__maxsize"), .str (Str.ofString "_Cache__maxsize") c.tc, .int c.mx c.tf⟩, ⟨PyData.keyHash P on, .str on c.td, .ref c.d2⟩] 4), (c.d1, o1), (c.d2, o2)]
structure Loc.Ok (c : Loc) : Prop where
  l1 : @LT.lt Nat _ c.dx c.x
  l2 : @LT.lt Nat _ c.x c.d1
  l3 : @LT.lt Nat _ c.d1 c.d2
  lo1 : (c.d1 == sysModules) = false
  lo2 : (c.d2 == sysModules) = false
/-- the order's dict: each key with None -/
def nones {K : Type} (ord : List K) : List (K × Value) := ord.map fun k => (k, Value.none)

section
variable {prog : Program} {K : Type} [DecidableEq K] (KK : Params → Frag) (q : Program) (knd : ∀ w, PySem.KeyKind prog w K) (mk : K → Tok → Value) (C : Addr) (on : Str)
/-- a call's surroundings: what stays whatever is raised (base), what the callers have beside (g) -/
structure Sur (D : Nat) (w : World) (base g : Heap) (fr : List Env) (gs : Option (List Code)) (mean : ExcName → Option Value) (mg mb : Str → Option Value) (lse : List Str) : Prop where
  B : Below (arnd D D fr gs) base fr g
  sz : base.objs.size ≤ g.objs.size
  X : (KK w.params).In base
  T : Top q lse mean mg mb base
/-- the cache at c, in the heap h, beside g -/
def Cash (w : World) (c : Loc) (g h : Heap) (cur : Int) (more : List (Addr × Obj)) (kvs ov : List (K × Value)) : Prop :=
  ∃ te o1 o2, Fit g (more ++ led w.params C on c cur te o1 o2) h ∧ o1.IsDictOf (knd w) kvs ∧ o2.IsDictOf (knd w) ov

/-- what a call of fn does: args, what it asks of the cache, what it leaves -/
def Deed (D : Nat) (fn : Addr) (args : Loc → K → Tok → Value → List Value) (Pre : Loc → Int → List (K × Value) → List (K × Value) → K → Value → Value → Prop)
    (Post : Loc → Int → List (K × Value) → List (K × Value) → K → Value → Value → Value × Int × List (K × Value) × List (K × Value)) : Prop :=
  ∀ {w : World} {s : Shared} {c : Loc} {cur : Int} {kvs ov : List (K × Value)} {k : K} {v dv : Value} {tk : Tok} {base g : Heap} {fr : List Env} {gs mean mg mb lse} {R : Result → Shared → Prop},
  Sur KK q D w base g fr gs mean mg mb lse → c.Ok → Cash knd C on w c g s.heap cur [] kvs ov → Pre c cur kvs ov k v dv →
  (∀ g' h' tk', Up base fr g g' → Cash knd C on w c g' h' (Post c cur kvs ov k v dv).2.1 [] (Post c cur kvs ov k v dv).2.2.1 (Post c cur kvs ov k v dv).2.2.2 → R (.ok (.ret (Post c cur kvs ov k v dv).1)) { s with heap := h', toks := tk' }) →
  codeAny (model prog w) (arnd D D fr gs) (.call (.ref fn) ⟨args c k tk dv, []⟩) R s

/-- setdefault of a key that the cache has -/
def SdHit (fn : Addr) (touch : Bool) : Prop := Deed KK q knd C on 350 fn (fun c k tk dv => [.ref c.x, mk k tk, dv])
  (fun _ _ kvs ov k v _ => valueAt kvs k = some v ∧ valueAt ov k = some .none ∧ kvs.length ≤ 12 ∧ ov.length ≤ 12) (fun _ cur kvs ov k v _ => (v, cur, kvs, if touch then stored (without ov k) k .none else ov))
/-- setdefault of a key that the cache has not, with a place left -/
def SdNew (fn : Addr) : Prop := Deed KK q knd C on 350 fn (fun c k tk dv => [.ref c.x, mk k tk, dv])
  (fun c cur kvs ov k _ _ => valueAt kvs k = none ∧ valueAt ov k = none ∧ cur < c.mx ∧ 1 ≤ c.mx ∧ c.mx ≤ 12 ∧ kvs.length ≤ 12 ∧ ov.length ≤ 12) (fun _ cur kvs ov k _ dv => (dv, cur + 1, stored kvs k dv, stored ov k .none))
/-- __setitem__ of a key that the cache has not, with a place left -/
def StNew (fn : Addr) : Prop := Deed KK q knd C on 380 fn (fun c k tk dv => [.ref c.x, mk k tk, dv])
  (fun c cur kvs ov k _ _ => valueAt kvs k = none ∧ valueAt ov k = none ∧ cur < c.mx ∧ 1 ≤ c.mx ∧ c.mx ≤ 12 ∧ kvs.length ≤ 12 ∧ ov.length ≤ 12) (fun _ cur kvs ov k _ dv => (.none, cur + 1, stored kvs k dv, stored ov k .none))
/-- the touch of a key that the order has not -/
def Touch (fn : Addr) : Prop := Deed KK q knd C on 400 fn (fun c k tk _ => [.ref c.x, mk k tk])
  (fun _ _ kvs ov k _ _ => valueAt ov k = none ∧ kvs.length ≤ 13 ∧ ov.length ≤ 13) (fun _ cur kvs ov k _ _ => (.none, cur, kvs, stored ov k .none))
/-- what a full cache drops -/
def FullPre (c : Loc) (cur : Int) (kvs ov : List (K × Value)) (k : K) : Prop :=
  ∃ k0 v0 rest, ov = (k0, .none) :: rest ∧ cur = c.mx ∧ valueAt kvs k0 = some v0 ∧ valueAt kvs k = none ∧ valueAt (without kvs k0) k = none ∧ valueAt (without ov k0) k = none ∧ 1 ≤ c.mx ∧ c.mx ≤ 12 ∧ kvs.length ≤ 12 ∧ rest.length ≤ 11
def first (ov : List (K × Value)) (k : K) : K := match ov with | [] => k | (k0, _) :: _ => k0
/-- setdefault of a key that the cache has not, with no place left -/
def SdFull (fn : Addr) : Prop := Deed KK q knd C on 350 fn (fun c k tk dv => [.ref c.x, mk k tk, dv])
  (fun c cur kvs ov k _ _ => FullPre c cur kvs ov k) (fun c _ kvs ov k _ dv => (dv, c.mx - 1 + 1, stored (without kvs (first ov k)) k dv, stored (without ov (first ov k)) k .none))
/-- __setitem__ of a key that the cache has not, with no place left -/
def StFull (fn : Addr) : Prop := Deed KK q knd C on 380 fn (fun c k tk dv => [.ref c.x, mk k tk, dv])
  (fun c cur kvs ov k _ _ => FullPre c cur kvs ov k) (fun c _ kvs ov k _ dv => (.none, c.mx - 1 + 1, stored (without kvs (first ov k)) k dv, stored (without ov (first ov k)) k .none))
end
section
variable {prog : Program} {K : Type} [DecidableEq K] {KK : Params → Frag} {q : Program} {knd : ∀ w, PySem.KeyKind prog w K} {C : Addr} {on : Str}
variable {w : World} {A A₀ : Around} {s : Shared} {base h₀ : Heap} {outer : List Env} {env : Env} {L : Addr} {m mg mb : Str → Option Value} {news : List (Addr × Obj)} {lse : List Str} {mean : ExcName → Option Value}
variable {D fn : Addr} {args : Loc → K → Tok → Value → List Value} {Pre : Loc → Int → List (K × Value) → List (K × Value) → K → Value → Value → Prop} {Post : Loc → Int → List (K × Value) → List (K × Value) → K → Value → Value → Value × Int × List (K × Value) × List (K × Value)}
variable {R : Result → Shared → Prop} {c : Loc} {cur : Int} {te : Tok} {o1 o2 : Obj} {kvs ov : List (K × Value)} {k : K} {v dv : Value} {tk : Tok} {as : List Value}
/-- a call of a function whose deed is told, by a function that knows no more objects -/
theorem Deed.code (d : Deed KK q knd C on D fn args Pre Post) (B : Below A₀ base outer h₀) (sz : base.objs.size ≤ h₀.objs.size) (X : (KK w.params).In base) (T : Top q lse mean mg mb base)
    (F : Fr h₀ L s.heap m) (N : News h₀ L s.heap news) (hh : A.handled = none) (hA : A.frames = some (env :: outer)) (hf : env.frame = some L) (hke : env.scope.kind = .function) (hd : A.depth ≤ D) (hu : A.units ≤ D)
    (ho : SubL (led w.params C on c cur te o1 o2) news) (D1 : o1.IsDictOf (knd w) kvs) (D2 : o2.IsDictOf (knd w) ov) (ok : c.Ok) (ha : as = args c k tk dv) (hp : Pre c cur kvs ov k v dv)
    (h : ∀ h₁ h' tk' te' p1 p2, Up base outer h₀ h₁ → Below A₀ base outer h₁ → (KK w.params).In h₁ → Top q lse mean mg mb h₁ → base.objs.size ≤ h₁.objs.size → Fr h₁ L h' m → News h₁ L h' (led w.params C on c (Post c cur kvs ov k v dv).2.1 te' p1 p2) → p1.IsDictOf (knd w) (Post c cur kvs ov k v dv).2.2.1 → p2.IsDictOf (knd w) (Post c cur kvs ov k v dv).2.2.2 →
      R (.ok (.ret (Post c cur kvs ov k v dv).1)) { s with heap := h', toks := tk' }) : codeAny (model prog w) A (.call (.ref fn) ⟨as, []⟩) R s := by
  subst ha
  refine handU (A := A) B sz F N hA hf hke fun g ft Bg szg back => ?_
  refine code_up (d (R := _) ⟨⟨rfl, Bg.stays, Bg.frames⟩, szg, X, T⟩ ok ⟨te, o1, o2, ⟨ft.1, ft.2.1, fun p hp => ft.2.2 p (ho.mem p hp)⟩, D1, D2⟩ hp fun g' h' tk' u cc => ?_) hh hA hd hu
  obtain ⟨te', p1, p2, ft', D1', D2'⟩ := cc
  obtain ⟨h₁, u1, B1, F1, N1⟩ := back g' h' _ u ft'
  exact h h₁ h' tk' te' p1 p2 u1 B1 (X.keeps B1.stays) (T.keeps B1.stays) (by rw [u1.size]; exact sz) F1 N1 D1' D2'
end
end Mine
end
section
open PySem PySem.W PySem.Spec PySem.Calls PyProof.Rows
namespace Mine
/-- a is the greater pair -/
def lexGt (a b : Int × Int) : Bool := if a.1 = b.1 then decide (a.2 > b.2) else decide (a.1 > b.1)
section
variable {prog : Program} {w : World} {A : Around} {E : Value → Shared → Prop} {s : Shared}
theorem pair_gt {T U : Addr} {a b : Int × Int} {t1 t2 u1 u2 : Tok} {Q : Value → Shared → Prop} (hu : A.units < cLine)
    (hT : IsTup s.heap T #[.int a.1 t1, .int a.2 t2]) (hU : IsTup s.heap U #[.int b.1 u1, .int b.2 u2]) (h : Q (.bool (lexGt a b)) s) : wpAny (model prog w) A (richCompare .Gt (.ref T) (.ref U)) Q E s := by
  obtain ⟨oa, hoa, hca, na, hda⟩ := hT
  obtain ⟨ob, hob, hcb, nb, hdb⟩ := hU
  have hTa : s.TypeIs (.ref T) "tuple" := ⟨oa, hoa, hca⟩
  have hTb : s.TypeIs (.ref U) "tuple" := ⟨ob, hob, hcb⟩
  refine wpAny_richCompare_same_room hTa hTb F.slot_tuple_gt (wpAny_call_entry F.slot_tuple_gt hTa F.entry_tuple_gt ?_ (F.args_tuple_gt_2 _ _)) hu
  show wpAny _ _ (isInstance (.ref U) (.type "tuple") >>= _) _ _ s
  refine wpAny_bind (wpAny_isInstance hTb isSubtype_tuple_tuple ?_)
  simp only [Bool.not_true, Bool.false_eq_true, if_false]
  refine wpAny_bind (wpAny_tupleItemsOf hoa hda ?_)
  refine wpAny_bind (wpAny_tupleItemsOf hob hdb ?_)
  refine wpAny_bind ?_
  show wpAny _ _ (forIn [(Value.int a.1 t1, Value.int b.1 u1), (Value.int a.2 t2, Value.int b.2 u2)] _ _) _ _ _
  rw [List.forIn_cons]
  refine wpAny_bind ?_
  refine wpAny_bind (wpAny_eqBool_int ?_)
  unfold lexGt at h
  by_cases h1 : a.1 = b.1
  · rw [if_pos h1] at h
    rw [show (a.1 == b.1) = true from by simpa using h1]
    simp only [Bool.not_true, Bool.false_eq_true, if_false]
    refine wpAny_pure ?_
    dsimp only
    rw [List.forIn_cons]
    refine wpAny_bind ?_
    refine wpAny_bind (wpAny_eqBool_int ?_)
    by_cases h2 : a.2 = b.2
    · rw [show (a.2 == b.2) = true from by simpa using h2]
      simp only [Bool.not_true, Bool.false_eq_true, if_false]
      refine wpAny_pure ?_
      dsimp only
      rw [List.forIn_nil]
      refine wpAny_pure ?_
      refine wpAny_pure ⟨_, rfl, (fun z => nomatch z), ?_⟩
      have : decide (a.2 > b.2) = false := by rw [decide_eq_false_iff_not]; omega
      rw [this] at h
      exact h
    · rw [show (a.2 == b.2) = false from by simpa using h2]
      simp only [Bool.not_false, if_true]
      refine wpAny_bind (wpAny_rule (wpAny_bind (richCompare_gives (op := .Gt) (typeIs_int s _ t2) (typeIs_int s _ u2) F.slot_int_gt F.entry_int_gt (F.args_int_gt_2 _ _) (gives_int_gt _ _ t2 u2) (fun x => nomatch x) ?_)))
      refine wpAny_bind (wpAny_pure (wpAny_pure ?_))
      exact wpAny_pure (wpAny_pure ⟨_, rfl, (fun z => nomatch z), h⟩)
  · rw [if_neg h1] at h
    rw [show (a.1 == b.1) = false from by simpa using h1]
    simp only [Bool.not_false, if_true]
    refine wpAny_bind (wpAny_rule (wpAny_bind (richCompare_gives (op := .Gt) (typeIs_int s _ t1) (typeIs_int s _ u1) F.slot_int_gt F.entry_int_gt (F.args_int_gt_2 _ _) (gives_int_gt _ _ t1 u1) (fun x => nomatch x) ?_)))
    refine wpAny_bind (wpAny_pure (wpAny_pure ?_))
    exact wpAny_pure (wpAny_pure ⟨_, rfl, (fun z => nomatch z), h⟩)
end

section
variable {prog : Program} {w : World} {A : Around} {E : Value → Shared → Prop} {s : Shared} {R : Result → Shared → Prop} {I : Addr} {fp wr : List Addr} {n : Nat} {P : Nat → Value → Prop} {St : Nat → Heap → Prop} {G : Heap → Prop} {bt : Nat → Nat → Bool} {S : Addr}
/-- max's own loop, where a comparison may read what G says of the heap -/
theorem mx_loop (W : Walks prog w A.in1 I fp wr n P St) (hG : ∀ h h', G h → (∀ b o, b ∉ wr → b ≠ S → h.get? b = some o → h'.get? b = some o) → G h')
    (hcmp : ∀ i j vi vj (s : Shared) (Q : Value → Shared → Prop) (E : Value → Shared → Prop), G s.heap → P i vi → P j vj → Q (.bool (bt i j)) s → wpAny (model prog w) A.in1 (richCompare .Gt vi vj) Q E s) (hSf : S ∉ fp) :
    ∀ (k j : Nat) (s : Shared) (vb : Value) (c : Nat), n - (j + 1) = k → j + 1 ≤ n → St (j + 1) s.heap → G s.heap → P (argBest bt j) vb →
    s.heap.get? S = some { cls := .type "list", dict := none, data := .seq #[vb, vb] c, slots := #[] } →
    (∀ v h' tk, P (argBest bt (n - 1)) v → (∀ b o, b ∉ wr → b ≠ S → s.heap.get? b = some o → h'.get? b = some o) → R (.ok (.ret v)) { s with heap := h', toks := tk }) →
    codeAny (model prog w) A (.builtin "max.loop" ⟨[.ref I, .none, .ref S], []⟩) R s := by
  have hSw : S ∉ wr := fun h => hSf (W.sub _ h)
  have hname : (toString "max" ++ toString ".loop" : String) = "max.loop" := by decide
  intro k
  induction k with
  | zero =>
    intro j s vb c hk hj hst _ hPb hS hR
    have hin : j + 1 = n := by omega
    refine codeAny_builtin F.entry_max_loop ?_
    rw [Around.under_plainId F.plain_max_loop _]
    show wpAny _ A.in1 (seqItems? (.ref S) >>= _) _ _ s
    refine wpAny_bind (wpAny_seqItems hS rfl ?_)
    show wpAny _ A.in1 (tryCatch (pyNext (.ref I)) _ >>= _) _ _ s
    refine wpAny_bind (wpAny_tryCatch (W.done s _ _ (hin ▸ hst) fun h' tk hk' => ?_))
    show wpAny _ A.in1 (updateSeq S (fun _ => #[]) >>= _) _ _ _
    refine wpAny_bind ?_
    refine wpAny_updateSeq (hk' S _ hSw hS) rfl (wpAny_bind (wpAny_letGo (wpAny_pure ?_)))
    refine hR vb _ tk (by rw [← hin]; exact hPb) fun b o hbw hbS e => (Heap.get?_update_other _ _ (Ne.symm hbS)).trans (hk' b o hbw e)
  | succ k ih =>
    intro j s vb c hk hj hst hg hPb hS hR
    have hlt : j + 1 < n := by omega
    refine codeAny_builtin F.entry_max_loop ?_
    rw [Around.under_plainId F.plain_max_loop _]
    show wpAny _ A.in1 (seqItems? (.ref S) >>= _) _ _ s
    refine wpAny_bind (wpAny_seqItems hS rfl ?_)
    show wpAny _ A.in1 (tryCatch (pyNext (.ref I)) _ >>= _) _ _ s
    refine wpAny_bind (wpAny_tryCatch (W.item (j + 1) s _ _ hlt hst fun v h' tk hP hst' hk' => ?_))
    have hS' := hk' S _ hSw hS
    have hg' : G h' := hG _ _ hg fun b o hb _ e => hk' b o hb e
    show wpAny _ A.in1 (tryCatch (holding [v, v] (richCompare .Gt v vb >>= _)) _ >>= _) _ _ _
    refine wpAny_bind (wpAny_tryCatch (wpAny_holding (wpAny_bind (hcmp (j + 1) (argBest bt j) v vb _ _ _ hg' hP hPb ?_))))
    refine wpAny_bind (wpAny_holding (wpAny_truthy_bool ?_))
    refine wpAny_bind (wpAny_letGo (wpAny_pure ?_))
    cases hb : bt (j + 1) (argBest bt j) with
    | true =>
      simp only [if_true]
      refine wpAny_bind ?_
      refine wpAny_updateSeq hS' rfl (wpAny_bind (wpAny_letGo ?_))
      rw [hname]
      refine wpAny_pure ⟨plainId_quiet F.plain_max_loop _, ih (j + 1) _ v _ (by omega) hlt (W.frame _ _ _ hst' fun b hbf o e => ?_) (hG _ _ hg' fun b o _ hbS e => (Heap.get?_update_other _ _ (Ne.symm hbS)).trans e)
        (by simp only [argBest, hb, if_true]; exact hP) (Heap.get?_update_self _ hS' rfl) fun v' h'' tk'' hP' hk'' => ?_⟩
      · exact (Heap.get?_update_other _ _ (fun h : S = b => hSf (by rw [h]; exact hbf))).trans e
      · exact hR v' h'' tk'' hP' fun b o hbw hbS e => hk'' b o hbw hbS ((Heap.get?_update_other _ _ (Ne.symm hbS)).trans (hk' b o hbw e))
    | false =>
      simp only [Bool.false_eq_true, if_false]
      refine wpAny_bind (wpAny_letGo ?_)
      rw [hname]
      refine wpAny_pure ⟨plainId_quiet F.plain_max_loop _, ih (j + 1) _ vb c (by omega) hlt hst' hg' (by simp only [argBest, hb, Bool.false_eq_true, if_false]; exact hPb) hS' fun v' h'' tk'' hP' hk'' => ?_⟩
      exact hR v' h'' tk'' hP' fun b o hbw hbS e => hk'' b o hbw hbS (hk' b o hbw e)
theorem mx_call {x : Value} {Q : Value → Shared → Prop}
    (h : wpAny (model prog w) A.in1 (pyIter x) (fun it s₂ => ∃ I fp wr n P St bt, ∃ G : Heap → Prop, it = .ref I ∧ Walks prog w A.in1 I fp wr n P St ∧ St 0 s₂.heap ∧ (∀ b ∈ fp, b < s₂.heap.objs.size) ∧ 0 < n ∧ G s₂.heap ∧
      (∀ h h' : Heap, G h → (∀ b o, b ∉ wr → b < s₂.heap.objs.size → h.get? b = some o → h'.get? b = some o) → G h') ∧
      (∀ i j vi vj (s : Shared) (Q : Value → Shared → Prop) (E : Value → Shared → Prop), G s.heap → P i vi → P j vj → Q (.bool (bt i j)) s → wpAny (model prog w) A.in1 (richCompare .Gt vi vj) Q E s) ∧
      ∀ v h' tk, P (argBest bt (n - 1)) v → (∀ b o, b ∉ wr → s₂.heap.get? b = some o → h'.get? b = some o) → Q v { s₂ with heap := h', toks := tk }) E s) :
    wpAny (model prog w) A (call (.builtin "max") [x]) Q E s := by
  have hname : (toString "max" ++ toString ".loop" : String) = "max.loop" := by decide
  refine call_function_tree F.kind_max F.plain_max F.entry_max (F.args_max1 _) ?_
  show wpAny _ A.in1 (Builtin.Builtins.bindParams "max" ["key", "default"] 0 ⟨[], []⟩ >>= _) _ _ s
  refine wpAny_bind (wpAny_of_eq (show Builtin.Builtins.bindParams "max" ["key", "default"] 0 ⟨[], []⟩ = pure [none, none] from rfl) ?_)
  refine wpAny_bind (wpAny_pure ?_)
  refine wpAny_bind (wpAny_mono h (fun it s₂ h₂ => ?_) fun _ _ e => e)
  obtain ⟨I, fp, wr, n, P, St, bt, G, rfl, W, hst, hfp, hn, hg, hG, hcmp, hQ⟩ := h₂
  refine wpAny_bind (wpAny_newObj_type ?_)
  have hSf : s₂.heap.objs.size ∉ fp := fun hm => Nat.lt_irrefl _ (hfp _ hm)
  have hSw : s₂.heap.objs.size ∉ wr := fun h => hSf (W.sub _ h)
  have hG' : ∀ h h', G h → (∀ b o, b ∉ wr → b ≠ s₂.heap.objs.size → h.get? b = some o → h'.get? b = some o) → G h' := fun h h' x y => hG h h' x fun b o hb hl e => y b o hb (Nat.ne_of_lt hl) e
  rw [hname]
  refine wpAny_pure ⟨plainId_quiet F.plain_max_loop _, ?_⟩
  -- the first turn
  refine codeAny_builtin F.entry_max_loop ?_
  rw [Around.under_plainId F.plain_max_loop _]
  have hS0 := Heap.get?_push_size s₂.heap (o := { cls := .type "list", dict := none, data := .seq ([] : List Value).toArray }) rfl
  show wpAny _ A.in1 (seqItems? (.ref s₂.heap.objs.size) >>= _) _ _ _
  refine wpAny_bind (wpAny_seqItems hS0 rfl ?_)
  show wpAny _ A.in1 (tryCatch (pyNext (.ref I)) _ >>= _) _ _ _
  refine wpAny_bind (wpAny_tryCatch (W.item 0 _ _ _ hn (W.frame _ _ _ hst fun b _ o e => Heap.get?_push_of_some _ e) fun v h' tk hP hst' hk' => ?_))
  have hS' := hk' _ _ hSw hS0
  show wpAny _ A.in1 (updateSeq s₂.heap.objs.size (fun _ => #[v, v]) >>= _) _ _ _
  refine wpAny_bind ?_
  refine wpAny_updateSeq hS' rfl ?_
  rw [hname]
  refine wpAny_pure ⟨plainId_quiet F.plain_max_loop _, mx_loop W hG' hcmp hSf _ 0 _ v _ rfl hn (W.frame _ _ _ hst' fun b hbf o e => ?_) (hG _ _ hg fun b o hb hl e => ?_) hP (Heap.get?_update_self _ hS' rfl) fun v' h'' tk'' hP' hk'' => ?_⟩
  · exact (Heap.get?_update_other _ _ (fun h : s₂.heap.objs.size = b => hSf (by rw [h]; exact hbf))).trans e
  · exact (Heap.get?_update_other _ _ (Ne.symm (Nat.ne_of_lt hl))).trans (hk' b o hb (Heap.get?_push_of_some _ e))
  · exact hQ v' h'' tk'' hP' fun b o hbw e => hk'' b o hbw (Nat.ne_of_lt (Heap.lt_size e)) ((Heap.get?_update_other _ _ (Ne.symm (Nat.ne_of_lt (Heap.lt_size e)))).trans (hk' b o hbw (Heap.get?_push_of_some _ e)))
end
/-- the values vs are the pairs ps, which lie in h -/
def Prs (h : Heap) (vs : List Value) (ps : List (Int × Int)) : Prop := vs.length = ps.length ∧ ∀ (i : Nat) (v : Value) (p : Int × Int), vs[i]? = some v → ps[i]? = some p → ∃ T t u, v = .ref T ∧ IsTup h T #[.int p.1 t, .int p.2 u]
theorem Prs.keeps {h h' : Heap} {vs : List Value} {ps : List (Int × Int)} (x : Prs h vs ps) (k : ∀ b o, h.get? b = some o → h'.get? b = some o) : Prs h' vs ps :=
  ⟨x.1, fun i v p hv hp => let ⟨T, t, u, e, q⟩ := x.2 i v p hv hp; ⟨T, t, u, e, q.keeps k⟩⟩
theorem at_getD {α : Type} {l : List α} {i : Nat} {d : α} (h : i < l.length) : l[i]? = some (l.getD i d) := by simp [h]
theorem lexGt_iff {a b : Int × Int} : lexGt a b = true ↔ (a.1 > b.1 ∨ (a.1 = b.1 ∧ a.2 > b.2)) := by
  unfold lexGt
  split
  · rw [decide_eq_true_iff]; omega
  · rw [decide_eq_true_iff]; omega
theorem argBest_top (f : Nat → Int × Int) : ∀ k, argBest (fun i j => lexGt (f i) (f j)) k ≤ k ∧ ∀ j ≤ k, (f j).1 < (f (argBest (fun i j => lexGt (f i) (f j)) k)).1 ∨ ((f j).1 = (f (argBest (fun i j => lexGt (f i) (f j)) k)).1 ∧ (f j).2 ≤ (f (argBest (fun i j => lexGt (f i) (f j)) k)).2)
  | 0 => ⟨Nat.le_refl _, fun j hj => by rw [Nat.le_zero.mp hj]; exact .inr ⟨rfl, Int.le_refl _⟩⟩
  | k + 1 => by
    obtain ⟨h1, h2⟩ := argBest_top f k
    by_cases hb : lexGt (f (k + 1)) (f (argBest (fun i j => lexGt (f i) (f j)) k)) = true
    · have e : argBest (fun i j => lexGt (f i) (f j)) (k + 1) = k + 1 := by simp only [argBest, hb, if_true]
      rw [e]
      refine ⟨Nat.le_refl _, fun j hj => ?_⟩
      rcases Nat.lt_or_eq_of_le hj with hj | hj
      · have := h2 j (Nat.le_of_lt_succ hj)
        have := lexGt_iff.mp hb
        omega
      · rw [hj]; exact .inr ⟨rfl, Int.le_refl _⟩
    · have hb' : lexGt (f (k + 1)) (f (argBest (fun i j => lexGt (f i) (f j)) k)) = false := by simpa using hb
      have e : argBest (fun i j => lexGt (f i) (f j)) (k + 1) = argBest (fun i j => lexGt (f i) (f j)) k := by simp only [argBest, hb', Bool.false_eq_true, if_false]
      rw [e]
      refine ⟨Nat.le_succ_of_le h1, fun j hj => ?_⟩
      rcases Nat.lt_or_eq_of_le hj with hj | hj
      · exact h2 j (Nat.le_of_lt_succ hj)
      · rw [hj]
        have := mt lexGt_iff.mpr hb
        omega
section
variable {prog : Program} {w : World} {A : Around} {E : Value → Shared → Prop} {s : Shared} {l : Addr} {vs : List Value} {ps : List (Int × Int)}
/-- the greatest of a list of pairs -/
theorem max_pairs {Q : Value → Shared → Prop} (hh : A.handled = none) (hu : A.units < cLine - 1) (hl : s.heap.IsList l vs.toArray) (hp : Prs s.heap vs ps) (hne : 0 < ps.length)
    (h : ∀ h' tk T p t u, (∀ b o, s.heap.get? b = some o → h'.get? b = some o) → p ∈ ps → (∀ q ∈ ps, q.1 < p.1 ∨ (q.1 = p.1 ∧ q.2 ≤ p.2)) → IsTup h' T #[.int p.1 t, .int p.2 u] → Q (.ref T) { s with heap := h', toks := tk }) :
    wpAny (model prog w) A (call (.builtin "max") [.ref l]) Q E s := by
  have hlt : l < s.heap.objs.size := by obtain ⟨_, e, _⟩ := hl; exact Heap.lt_size e
  refine mx_call (wpAny_pyIter_list hl ?_)
  have up : ∀ b o, s.heap.get? b = some o → (s.heap.push { cls := .type "list_iterator", data := .fields #[.ref l, .int 0 0] }).get? b = some o := fun b o e => Heap.get?_push_of_some _ e
  refine ⟨_, _, _, _, _, _, fun i j => lexGt (ps.getD i (0, 0)) (ps.getD j (0, 0)), fun h => (∀ b o, s.heap.get? b = some o → h.get? b = some o), rfl, Walks.list (A := A.in1) hh s.heap.objs.size l (Nat.ne_of_lt hlt) vs.toArray,
    ⟨⟨_, Heap.get?_push_size _ rfl, rfl, rfl⟩, hl.push _⟩, fun b hb => ?_, by simpa [hp.1] using hne, up, fun h₁ h₂ g k b o e => k b o (fun hm => ?_) ?_ (g b o e), fun i j vi vj s' Q' E' g hi hj hq => ?_, fun v h' tk hP hk => ?_⟩
  · show b < (s.heap.push _).objs.size
    rw [Heap.size_push]
    rcases List.mem_cons.mp hb with rfl | hb
    · exact Nat.lt_succ_self _
    · rw [List.mem_singleton.mp hb]; exact Nat.lt_succ_of_lt hlt
  · exact absurd (Heap.lt_size e) (by rw [List.mem_singleton.mp hm]; exact Nat.lt_irrefl _)
  · show b < (s.heap.push _).objs.size
    rw [Heap.size_push]; exact Nat.lt_succ_of_lt (Heap.lt_size e)
  · have hi' : vs[i]? = some vi := by simpa using hi
    have hj' : vs[j]? = some vj := by simpa using hj
    have li : i < ps.length := by rw [← hp.1]; exact (List.getElem?_eq_some_iff.mp hi').1
    have lj : j < ps.length := by rw [← hp.1]; exact (List.getElem?_eq_some_iff.mp hj').1
    have ei : ps[i]? = some (ps.getD i (0, 0)) := at_getD li
    have ej : ps[j]? = some (ps.getD j (0, 0)) := at_getD lj
    obtain ⟨T, t1, t2, rfl, hT⟩ := (hp.keeps g).2 i vi _ hi' ei
    obtain ⟨U, u1, u2, rfl, hU⟩ := (hp.keeps g).2 j vj _ hj' ej
    exact pair_gt (by show A.units + 1 < cLine; omega) hT hU hq
  · have hv : vs[argBest (fun i j => lexGt (ps.getD i (0, 0)) (ps.getD j (0, 0))) (vs.length - 1)]? = some v := by simpa using hP
    obtain ⟨b1, b2⟩ := argBest_top (fun i => ps.getD i (0, 0)) (vs.length - 1)
    have lb : argBest (fun i j => lexGt (ps.getD i (0, 0)) (ps.getD j (0, 0))) (vs.length - 1) < ps.length := by rw [← hp.1]; exact (List.getElem?_eq_some_iff.mp hv).1
    have eb : ps[argBest (fun i j => lexGt (ps.getD i (0, 0)) (ps.getD j (0, 0))) (vs.length - 1)]? = some (ps.getD (argBest (fun i j => lexGt (ps.getD i (0, 0)) (ps.getD j (0, 0))) (vs.length - 1)) (0, 0)) := at_getD lb
    have old : ∀ b o, s.heap.get? b = some o → h'.get? b = some o := fun b o e => hk b o (fun hm => absurd (Heap.lt_size e) (by rw [List.mem_singleton.mp hm]; exact Nat.lt_irrefl _)) (up b o e)
    obtain ⟨T, t, u, rfl, hT⟩ := (hp.keeps old).2 _ v _ hv eb
    refine h h' tk T _ t u old (List.mem_of_getElem? eb) (fun q hq => ?_) hT
    obtain ⟨j, hj, rfl⟩ := List.getElem_of_mem hq
    have := b2 j (by rw [hp.1]; omega)
    rw [show ps.getD j (0, 0) = ps[j] from by simp [hj]] at this
    exact this
end
theorem idx_le : ∀ {l : List Int} {i : Nat} {k : Int} (h : i < l.length), l[i] = k → l.idxOf k ≤ i
  | a :: l, 0, k, _, e => by
    have e' : a = k := e
    rw [List.idxOf_cons, beq_iff_eq.mpr e']; exact Nat.le_refl _
  | a :: l, i + 1, k, h, e => by
    rw [List.idxOf_cons]
    have := idx_le (l := l) (i := i) (Nat.lt_of_succ_lt_succ h) e
    cases (a == k) <;> simp only [cond_true, cond_false] <;> omega
theorem int_eq {ws : List Value} {xs : List Int} (h : IntsAre ws xs) (k : Int) (t : Tok) : ∀ y, y ∈ ws → MeetsSeq.EqGives y (.int k t) (isInt k y) := by
  induction h with
  | nil => intro y hy; cases hy
  | cons a u _ ih =>
    intro y hy
    rcases List.mem_cons.mp hy with rfl | hy
    · exact MeetsSeq.EqGives.int a k u t
    · exact ih y hy
section
variable {prog : Program} {w : World} {A : Around} {E : Value → Shared → Prop} {s : Shared} {h₀ : Heap} {L D : Addr} {news : List (Addr × Obj)} {ws : List Value} {xs : List Int} {n : Nat}
theorem index_ints {k : Int} {t : Tok} {Q : Value → Shared → Prop} (N : News h₀ L s.heap news) (hm : (D, W.listOf ws.toArray n) ∈ news) (hi : IntsAre ws xs) (hk : (xs.any fun x => x == k) = true) (hz : xs.length ≤ 1000)
    (h : Q (.int (xs.idxOf k : Int) s.toks) { s with toks := s.toks + 1 }) : wpAny (model prog w) A (call (.builtin "list.index") [.ref D, .int k t]) Q E s := by
  have hkm : k ∈ xs := by
    obtain ⟨x, hx, e⟩ := List.any_eq_true.mp hk
    rw [← (beq_iff_eq.mp e : x = k)]; exact hx
  have hlt := List.idxOf_lt_length_iff.mpr hkm
  have hl := hi.length
  have at_ : ∀ i (hi' : i < ws.toArray.size), isInt k ws.toArray[i] = (xs.getD i 0 == k) := fun i hi' => by
    have hi2 : i < xs.length := by rw [List.size_toArray] at hi'; omega
    obtain ⟨u, hu⟩ := hi.get i xs[i] (by simp [hi2])
    have hi3 : i < ws.length := by omega
    have : ws[i] = .int xs[i] u := by
      have := List.getElem?_eq_getElem hi3
      rw [hu] at this; exact (Option.some.inj this).symm
    simp only [List.getElem_toArray, this, isInt]
    simp [hi2]
  refine call_meets PySem.F.slot_list_index ⟨_, (N _ hm).1, rfl⟩ PySem.F.entry_list_index (PySem.F.args_list_index_2 _ _)
    (MeetsSeq.list_index D ws.toArray n (.int k t) (isInt k) (fun y hy => int_eq hi k t y (by simpa using hy)) (xs.idxOf k) (by rw [List.size_toArray]; omega) (by omega) ?_ (fun i hi' hlt' => ?_)) ⟨(N _ hm).1, h⟩
  · rw [at_ _ (by rw [List.size_toArray]; omega)]
    simp [hlt, List.getElem_idxOf hlt]
  · rw [at_ i hi']
    have hi2 : i < xs.length := by rw [List.size_toArray] at hi'; omega
    have : xs[i] ≠ k := fun e => by
      have : i ∈ List.range xs.length := by simpa using hi2
      have := idx_le hi2 e
      omega
    simp [hi2, this]
end
end Mine
end
section
open PySem PySem.W PySem.Spec PySem.Calls PyProof.Rows
namespace Mine
section
variable {prog : Program} {w : World} {A : Around} {E : Value → Shared → Prop} {s : Shared} {env : Env} {h₀ : Heap} {target : PySem.Expr} {body : List Stmt} {Q : Flow → Shared → Prop} {ws : List (Addr × String)} {keep : List (Addr × Obj)}
theorem AllObj.mono : ∀ {ws : List (Addr × String)} {k k' : List (Addr × Obj) → Prop}, (∀ its, k its → k' its) → AllObj ws k → AllObj ws k'
  | [], _, _, f, h => f [] h
  | _ :: _, _, _, f, h => fun o ho => AllObj.mono (fun its z => f _ z) (h o ho)
/-- a loop over items, by what holds ahead of each turn -/
theorem items_inv {n : Nat} (its : Nat → List Itm) (Inv : Nat → (Str → Option Value) → List (Addr × Obj) → Prop) (hz : its n = []) (hs : ∀ i, i < n → ∃ a, its i = a :: its (i + 1))
    (step : ∀ i a m news (K : (Str → Option Value) → List (Addr × Obj) → Prop), i < n → its i = a :: its (i + 1) → Inv i m news → (∀ m' n' n₀, SubL n₀ n' → Inv (i + 1) m' n₀ → K m' n') →
      ∀ v h tk, a.Is v h → Fr h₀ env.locals h m → AllObj ws (fun its => News h₀ env.locals h (its ++ news) →
        wpAny (model prog w) A (assign target env v) (fun _ s₂ => wpAny (model prog w) A (execs body env) (UnrPostW h₀ env.locals { s with heap := h, toks := tk } its (fun m' n' => SubL keep n' ∧ K m' n') Q) E s₂) E { s with heap := h, toks := tk }))
    (fin : ∀ m news, Inv n m news → ∀ h tk, Fr h₀ env.locals h m → News h₀ env.locals h news → Q .next { s with heap := h, toks := tk }) :
    ∀ k i m news news₀, i + k = n → (∀ p ∈ news₀, p ∈ news) → Inv i m news₀ → ItemsRest prog w A E h₀ env target body Q s ws keep (its i) m news
  | 0, i, m, news, news₀, e, sub, hi => by
    have e' : i = n := e
    subst e'
    rw [hz]
    exact fun h tk F N => fin m news₀ hi h tk F fun p hp => N p (sub p hp)
  | k + 1, i, m, news, news₀, e, sub, hi => by
    have hlt : i < n := by omega
    obtain ⟨a, ha⟩ := hs i hlt
    rw [ha]
    intro v h tk hv F
    exact AllObj.mono (fun its z N => z fun p hp => N p (by
        rcases List.mem_append.mp hp with hp | hp
        · exact List.mem_append_left _ hp
        · exact List.mem_append_right _ (sub p hp)))
      (step i a m news₀ _ hlt ha hi (fun m' n' n₀ sb z => items_inv its Inv hz hs step fin k (i + 1) m' n' n₀ (by omega) sb.mem z) v h tk hv F)
theorem enum_at {vs : List Value} {a i : Nat} (h : i < vs.length) : ∃ x, vs[i]? = some x ∧ enumItems (a + i) (vs.drop i) = .pair (fun t => .int ((a + i : Nat) : Int) t) x :: enumItems (a + (i + 1)) (vs.drop (i + 1)) :=
  ⟨vs[i], by simp [h], by rw [List.drop_eq_getElem_cons h]; rfl⟩
/-- a loop over enumerate(list) -/
theorem enum_inv {vs : List Value} (Inv : Nat → (Str → Option Value) → List (Addr × Obj) → Prop)
    (step : ∀ i x m news (K : (Str → Option Value) → List (Addr × Obj) → Prop), vs[i]? = some x → Inv i m news → (∀ m' n' n₀, SubL n₀ n' → Inv (i + 1) m' n₀ → K m' n') →
      ∀ T t h tk, IsTup h T #[.int (i : Int) t, x] → Fr h₀ env.locals h m → AllObj ws (fun its => News h₀ env.locals h (its ++ news) →
        wpAny (model prog w) A (assign target env (.ref T)) (fun _ s₂ => wpAny (model prog w) A (execs body env) (UnrPostW h₀ env.locals { s with heap := h, toks := tk } its (fun m' n' => SubL keep n' ∧ K m' n') Q) E s₂) E { s with heap := h, toks := tk }))
    (fin : ∀ m news, Inv vs.length m news → ∀ h tk, Fr h₀ env.locals h m → News h₀ env.locals h news → Q .next { s with heap := h, toks := tk })
    {m : Str → Option Value} {news : List (Addr × Obj)} (news₀ : List (Addr × Obj)) (sub : SubL news₀ news) (h0 : Inv 0 m news₀) : ItemsRest prog w A E h₀ env target body Q s ws keep (enumItems 0 vs) m news := by
  have z := items_inv (prog := prog) (w := w) (A := A) (E := E) (s := s) (env := env) (h₀ := h₀) (target := target) (body := body) (Q := Q) (ws := ws) (keep := keep) (n := vs.length) (fun i => enumItems i (vs.drop i)) Inv (by simp [enumItems])
    (fun i hi => by obtain ⟨x, _, e⟩ := enum_at (a := 0) hi; rw [Nat.zero_add, Nat.zero_add] at e; exact ⟨_, e⟩)
    (fun i a m news K hi ha hinv hK v h tk hv F => by
      obtain ⟨x, hx, e⟩ := enum_at (a := 0) hi
      rw [Nat.zero_add, Nat.zero_add] at e
      cases List.cons.inj (ha.symm.trans e) |>.1
      obtain ⟨T, t, rfl, hT⟩ := hv
      exact step i x m news K hx hinv hK T t h tk hT F) fin vs.length 0 m news news₀ (by omega) sub.mem h0
  exact z
/-- a loop over a list's values -/
theorem vals_inv {vs : List Value} (Inv : Nat → (Str → Option Value) → List (Addr × Obj) → Prop)
    (step : ∀ i x m news (K : (Str → Option Value) → List (Addr × Obj) → Prop), vs[i]? = some x → Inv i m news → (∀ m' n' n₀, SubL n₀ n' → Inv (i + 1) m' n₀ → K m' n') →
      ∀ h tk, Fr h₀ env.locals h m → AllObj ws (fun its => News h₀ env.locals h (its ++ news) →
        wpAny (model prog w) A (assign target env x) (fun _ s₂ => wpAny (model prog w) A (execs body env) (UnrPostW h₀ env.locals { s with heap := h, toks := tk } its (fun m' n' => SubL keep n' ∧ K m' n') Q) E s₂) E { s with heap := h, toks := tk }))
    (fin : ∀ m news, Inv vs.length m news → ∀ h tk, Fr h₀ env.locals h m → News h₀ env.locals h news → Q .next { s with heap := h, toks := tk })
    {m : Str → Option Value} {news : List (Addr × Obj)} (news₀ : List (Addr × Obj)) (sub : SubL news₀ news) (h0 : Inv 0 m news₀) : ItemsRest prog w A E h₀ env target body Q s ws keep (vs.map .val) m news := by
  have z := items_inv (prog := prog) (w := w) (A := A) (E := E) (s := s) (env := env) (h₀ := h₀) (target := target) (body := body) (Q := Q) (ws := ws) (keep := keep) (n := vs.length) (fun i => (vs.drop i).map .val) Inv (by simp)
    (fun i hi => ⟨.val vs[i], by rw [List.drop_eq_getElem_cons hi]; rfl⟩)
    (fun i a m news K hi ha hinv hK v h tk hv F => by
      rw [List.drop_eq_getElem_cons hi] at ha
      cases List.cons.inj ha |>.1
      have hv' : v = vs[i] := hv
      subst hv'
      exact step i vs[i] m news K (by simp [hi]) hinv hK h tk F) fin vs.length 0 m news news₀ (by omega) sub.mem h0
  exact z
end
section
variable {prog : Program} {w : World} {A : Around} {s : Shared} {h₀ : Heap} {L : Addr} {m : Str → Option Value} {env : Env} {ct elt : PySem.Expr} {x : Str} {scope : Scope} {cl : List (Str × Addr)} {S : List (Addr × Obj) → Prop} {P : Nat → Value → Prop} {Fin : List Value → List (Addr × Obj) → Prop}
/-- a comprehension, by what holds ahead of each turn -/
theorem comp_inv {n : Nat} (Inv : Nat → List Value → List (Addr × Obj) → Prop)
    (step : ∀ i ys news (K : Value → List (Addr × Obj) → Prop), i < n → Inv i ys news → (∀ y n', Inv (i + 1) (ys ++ [y]) n' → K y n') →
      ∀ v I oI C oC D m₂ h tk (E' : Value → Shared → Prop), P i v → LCg.NsObj oC m₂ → m₂ x = some v → Fr h₀ L h m → News h₀ L h ((I, oI) :: (C, oC) :: (D, LCg.lst ys) :: news) → LCg.Off3 I C D news → ((@Ne Nat I C) ∧ (@Ne Nat I D) ∧ (@Ne Nat C D)) →
      wpAny (model prog w) A (eval elt (compEnvC scope cl C env)) (LCg.CompEnd h₀ L m { s with heap := h, toks := tk } I oI C oC D (LCg.lst ys) S K) E' { s with heap := h, toks := tk })
    (fin : ∀ ys news, Inv n ys news → Fin ys news) : ∀ k i ys news, i + k = n → Inv i ys news → LCg.CompRest prog w A h₀ L m env elt x scope cl s S P Fin k i ys news
  | 0, i, ys, news, e, hi => by
    have e' : i = n := e
    subst e'
    exact fin ys news hi
  | k + 1, i, ys, news, e, hi => fun v I oI C oC D m₂ h tk E' a b c d e' f g => step i ys news _ (by omega) hi (fun y n' z => comp_inv Inv step fin k (i + 1) (ys ++ [y]) n' (by omega) z) v I oI C oC D m₂ h tk E' a b c d e' f g
/-- a comprehension with a test -/
theorem compT_inv {n : Nat} (Inv : Nat → List Value → List (Addr × Obj) → Prop)
    (step : ∀ i ys news (K K' : Value → List (Addr × Obj) → Prop), i < n → Inv i ys news → (∀ y n', Inv (i + 1) (ys ++ [y]) n' → K y n') → (∀ y n', Inv (i + 1) ys n' → K' y n') →
      ∀ v I oI C oC D m₂ h tk (E' : Value → Shared → Prop), P i v → LCg.NsObj oC m₂ → m₂ x = some v → Fr h₀ L h m → News h₀ L h ((I, oI) :: (C, oC) :: (D, LCg.lst ys) :: news) → LCg.Off3 I C D news → ((@Ne Nat I C) ∧ (@Ne Nat I D) ∧ (@Ne Nat C D)) →
      wpAny (model prog w) A (isTrue ct (compEnvC scope cl C env) (eval ct (compEnvC scope cl C env))) (fun ok s' => if ok = true then
        wpAny (model prog w) A (eval elt (compEnvC scope cl C env)) (LCg.CompEnd h₀ L m { s with heap := h, toks := tk } I oI C oC D (LCg.lst ys) S K) E' s'
        else LCg.CompEnd h₀ L m { s with heap := h, toks := tk } I oI C oC D (LCg.lst ys) S K' Value.none s') E' { s with heap := h, toks := tk })
    (fin : ∀ ys news, Inv n ys news → Fin ys news) : ∀ k i ys news, i + k = n → Inv i ys news → LCt.CompRestT prog w A h₀ L m env ct elt x scope cl s S P Fin k i ys news
  | 0, i, ys, news, e, hi => by
    have e' : i = n := e
    subst e'
    exact fin ys news hi
  | k + 1, i, ys, news, e, hi => fun v I oI C oC D m₂ h tk E' a b c d e' f g => step i ys news _ _ (by omega) hi (fun y n' z => compT_inv Inv step fin k (i + 1) (ys ++ [y]) n' (by omega) z) (fun _ n' z => compT_inv Inv step fin k (i + 1) ys n' (by omega) z) v I oI C oC D m₂ h tk E' a b c d e' f g
end
section
variable {h₀ h' : Heap} {L I C D : Addr} {m : Str → Option Value} {s₁ : Shared} {oI oC oD : Obj} {S : List (Addr × Obj) → Prop} {K : Value → List (Addr × Obj) → Prop} {tk : Nat} {all base tups : List (Addr × Obj)} {y : Value}
/-- the end of a comprehension's turn that keeps base, written out, and tups -/
theorem keep_end (F : Fr h₀ L h' m) (N : News h₀ L h' all) (hb : SubL ((I, oI) :: (C, oC) :: (D, oD) :: base) all) (ht : ∀ q ∈ tups, q ∈ all) (off : LCg.Off3 I C D (base ++ tups)) (hS : S (base ++ tups)) (hK : K y (base ++ tups)) :
    LCg.CompEnd h₀ L m s₁ I oI C oC D oD S K y { s₁ with heap := h', toks := tk } :=
  ⟨h', tk, base ++ tups, rfl, F, fun p hp => by
    rcases List.mem_cons.mp hp with rfl | hp
    · exact N _ hb.1
    · rcases List.mem_cons.mp hp with rfl | hp
      · exact N _ hb.2.1
      · rcases List.mem_cons.mp hp with rfl | hp
        · exact N _ hb.2.2.1
        · rcases List.mem_append.mp hp with hp | hp
          · exact N p (SubL.mem hb.2.2.2 p hp)
          · exact N p (ht p hp), off, hS, hK⟩
theorem off_snoc {I C D T : Addr} {o : Obj} : ∀ {base tups : List (Addr × Obj)}, LCg.Off3 I C D (base ++ tups) → ((@Ne Nat T I) ∧ (@Ne Nat T C) ∧ (@Ne Nat T D)) → LCg.Off3 I C D (base ++ (T, o) :: tups)
  | [], _, x, n => ⟨n, x⟩
  | _ :: _, _, x, n => ⟨x.1, off_snoc x.2 n⟩
end
section
variable {prog : Program} {w : World} {A : Around} {s : Shared} {g : Heap} {f : Addr} {mg mb : Str → Option Value} {K : Frag} {p : Program} {loose : List Str} {mean : ExcName → Option Value} {own : List (Addr × Obj)}
  {R : Result → Shared → Prop} {name qual : Str} {params : Arguments} {body : List Stmt} {scope : Scope} {dV kV doc pm cdv ct oc : Value} {an od : Option Addr} {osl : Array (Option Value)} {args : Args} {binds : List (Str × Value)}
theorem enterC (X : K.In g) (T : Top p loose mean mg mb g) (ft : Fit g own s.heap)
    (ho : K.lookup f = some ⟨oc, od, .func (fnOf name qual params body scope dV kV doc pm an cdv ct), osl⟩) (hcd : codeIn K cdv qual = true) (hroom : A.depth < recursionLimit)
    (hbind : BindsTo s (fnOf name qual params body scope dV kV doc pm an cdv ct) args binds) (hkind : (binds.all fun y => scope.names.lookup y.1 == some .local || scope.names.lookup y.1 == some .cell) = true)
    (hnd : ((cellsFrom 0 scope.names []).map (·.1)).Nodup)
    (h : ∀ L' h₁ tk cells, Fr g L' h₁ (bindL (envOfC qual scope L' f cdv).kindOf binds fun _ => none) → News g L' h₁ (cells ++ own) →
      CellsAre (bindC (envOfC qual scope L' f cdv).kindOf binds fun _ => none) (cellsFrom (L' + 1) scope.names []) cells → (∀ p ∈ own, p.1 < L') →
      wpAny (model prog w) (A.deeper (envOfC qual scope L' f cdv)) (execs body (envOfC qual scope L' f cdv))
        (fun fl s' => R (.ok (.ret (match fl with | .ret v => v | _ => .none))) s')
        (fun e s' => wpAny (model prog w) (A.deeper (envOfC qual scope L' f cdv)) (leaving (envOfC qual scope L' f cdv) e) (fun _ s'' => R (.error e) s'') (fun e' s'' => R (.error e') s'') s')
        { s with heap := h₁, toks := tk })
    (hco : scope.isCoroutine = false) (hgen : scope.isGenerator = false) (hk : scope.kind = .function) : codeAny (model prog w) A (.call (.ref f) args) R s := by
  have X' := X.keeps ft.1
  refine codeAny_call_function hroom (X' _ _ ho) rfl hco hgen rfl (codeRec_of X' hcd) (hbind _ _ _ _ ?_)
  refine wpAny_newFunctionEnv_cells hk (kindsX hkind _) fun env' he s' x => ?_
  subst he
  refine ⟨(T.nolimit.keeps ft.1).keeps x.toInCall.keep, codeAny_func ?_⟩
  obtain ⟨h₁, tk, rfl, _⟩ := x.done
  have hk₁ := x.toInCall.keep
  obtain ⟨cells, NC, Y⟩ := Cl.news (h₀ := s.heap) (Nat.le_refl _) fun n c hm => ⟨x.cell n c (lookup_of_mem_nodup (cellsFrom_names scope.names 0 (s.heap.objs.size + 1) [] [] rfl ▸ hnd) hm), x.above n c hm⟩
  refine wpAny_mono (h s.heap.objs.size h₁ tk cells ⟨x.toInCall.ns, fun b o e => hk₁ b o (ft.1 b o e), ft.2.1⟩ (fun p hp => ?_) Y (fun p hp => Heap.lt_size (ft.2.2 p hp).1)) (fun fl s' hl => hl) fun _ _ y => y
  rcases List.mem_append.mp hp with hp | hp
  · refine ⟨(NC p hp).1, (NC p hp).2.1, ?_⟩
    cases q : g.get? p.1 with
    | none => rfl
    | some o => have := ft.1 _ _ q; rw [(NC p hp).2.2] at this; cases this
  · exact ⟨hk₁ _ _ (ft.2.2 p hp).1, Nat.ne_of_lt (Heap.lt_size (ft.2.2 p hp).1), (ft.2.2 p hp).2⟩
end
end Mine
end
section
open PySem PySem.W PySem.Spec PySem.Calls PyProof.Rows
namespace Mine
section
variable {prog : Program} (KK : Params → Frag) (q : Program)
/-- the least number of loads -/
def BestSpec (fn : Addr) : Prop := ∀ {w : World} {s : Shared} {l : Addr} {vs : List Value} {n : Nat} {ns : List Int} {room : Int} {t : Tok} {base g : Heap} {fr : List Env} {gs mean mg mb lse} {R : Result → Shared → Prop},
  Below (arnd 400 400 fr gs) base fr g → (KK w.params).In g → Top q lse mean mg mb g → Fit g [(l, W.listOf vs.toArray n)] s.heap → IntsAre vs ns → ns.length ≤ 16 → 1 ≤ room → room ≤ 12 →
  (∀ h' tk best B t', Fit g [(l, W.listOf vs.toArray n)] h' → BelTo room.toNat ns ns.length B best → R (.ok (.ret (.int (best : Int) t'))) { s with heap := h', toks := tk }) →
  codeAny (model prog w) (arnd 400 400 fr gs) (.call (.ref fn) ⟨[.ref l, .int room t], []⟩) R s
end
abbrev pairObj (p : Int × Int) (t u : Tok) : Obj := { cls := .type "tuple", data := .seq #[.int p.1 t, .int p.2 u] }
/-- the values ys are the pairs ps, which lie in tups -/
def TupsOf (ys : List Value) (ps : List (Int × Int)) (tups : List (Addr × Obj)) : Prop :=
  ys.length = ps.length ∧ ∀ (i : Nat) (v : Value) (p : Int × Int), ys[i]? = some v → ps[i]? = some p → ∃ T t u, v = .ref T ∧ (T, pairObj p t u) ∈ tups
theorem TupsOf.nil : TupsOf [] [] [] := ⟨rfl, fun i v p h => by simp at h⟩
theorem TupsOf.snoc {ys : List Value} {ps : List (Int × Int)} {tups : List (Addr × Obj)} {T : Addr} {p : Int × Int} {t u : Tok} (x : TupsOf ys ps tups) : TupsOf (ys ++ [.ref T]) (ps ++ [p]) ((T, pairObj p t u) :: tups) := by
  refine ⟨by simp [x.1], fun i v q hv hq => ?_⟩
  by_cases hi : i < ys.length
  · rw [List.getElem?_append_left hi] at hv
    rw [List.getElem?_append_left (by rw [← x.1]; exact hi)] at hq
    obtain ⟨T', t', u', e, hm⟩ := x.2 i v q hv hq
    exact ⟨T', t', u', e, List.mem_cons_of_mem _ hm⟩
  · have hi' : i = ys.length := by
      have := (List.getElem?_eq_some_iff.mp hv).1
      simp at this; omega
    subst hi'
    rw [List.getElem?_concat_length] at hv
    rw [x.1, List.getElem?_concat_length] at hq
    cases hv; cases hq
    exact ⟨T, t, u, rfl, List.mem_cons_self⟩
theorem TupsOf.prs {ys : List Value} {ps : List (Int × Int)} {tups news : List (Addr × Obj)} {h₀ h : Heap} {L : Addr} (x : TupsOf ys ps tups) (N : News h₀ L h news) (hs : ∀ q ∈ tups, q ∈ news) : Prs h ys ps :=
  ⟨x.1, fun i v p hv hp => let ⟨T, t, u, e, hm⟩ := x.2 i v p hv hp; ⟨T, t, u, e, _, (N _ (hs _ hm)).1, rfl, 0, rfl⟩⟩
theorem take_map {B : List Int} {j : Nat} (f : Int → Int × Int) (h : j < B.length) : (B.take (j + 1)).map f = (B.take j).map f ++ [f (B.getD j 0)] := by
  rw [List.take_add_one, List.map_append]; simp [h]
theorem take_filter {B : List Int} {j : Nat} (f : Int → Bool) (h : j < B.length) : (B.take (j + 1)).filter f = (B.take j).filter f ++ (if f (B.getD j 0) = true then [B.getD j 0] else []) := by
  rw [List.take_add_one, List.filter_append]
  simp only [List.getElem?_eq_getElem h, Option.toList_some, List.getD_eq_getElem?_getD, Option.getD_some, List.filter_cons, List.filter_nil]
/-- of all that are held, the one that comes last -/
theorem farthest (row : List Int) (i : Nat) : ∀ {B : List Int}, B ≠ [] → ∃ M ∈ B, ∀ x ∈ B, nu row i x < nu row i M ∨ (nu row i x = nu row i M ∧ x ≤ M)
  | [], h => absurd rfl h
  | [a], _ => ⟨a, List.mem_cons_self, fun x hx => by rw [List.mem_singleton.mp hx]; exact .inr ⟨rfl, Int.le_refl _⟩⟩
  | a :: b :: r, _ => by
    obtain ⟨M, hM, hm⟩ := farthest row i (B := b :: r) (by simp)
    by_cases h : nu row i a < nu row i M ∨ (nu row i a = nu row i M ∧ a ≤ M)
    · refine ⟨M, List.mem_cons_of_mem _ hM, fun x hx => ?_⟩
      rcases List.mem_cons.mp hx with rfl | hx
      · exact h
      · exact hm x hx
    · refine ⟨a, List.mem_cons_self, fun x hx => ?_⟩
      rcases List.mem_cons.mp hx with rfl | hx
      · exact .inr ⟨rfl, Int.le_refl _⟩
      · have := hm x hx; omega
theorem nu_any {row : List Int} {i : Nat} {x : Int} (h : ((row.drop i).any fun y => y == x) = true) : nu row i x = ((row.drop i).idxOf x : Int) := by
  obtain ⟨z, hz, e⟩ := List.any_eq_true.mp h
  exact nu_in (by rw [← (beq_iff_eq.mp e : z = x)]; exact hz)
theorem nu_none {row : List Int} {i : Nat} {x : Int} (h : ((row.drop i).any fun y => y == x) = false) : nu row i x = (row.length : Int) := by
  refine nu_out fun hz => ?_
  rw [List.any_eq_false] at h
  exact h x hz (beq_self_eq_true x)
def FInv (base : List (Addr × Obj)) (c : Addr) (f : Nat → List (Int × Int)) (j : Nat) (ys : List Value) (news : List (Addr × Obj)) : Prop := ∃ tups, news = base ++ tups ∧ TupsOf ys (f j) tups ∧ ∀ q ∈ tups, @Ne Nat q.1 c
theorem FInv.zero {base : List (Addr × Obj)} {c : Addr} {f : Nat → List (Int × Int)} (h : f 0 = []) : FInv base c f 0 [] base := ⟨[], (List.append_nil _).symm, h ▸ TupsOf.nil, fun _ h => (nomatch h)⟩
theorem far_end {h₀ h' : Heap} {L I C D T : Addr} {m : Str → Option Value} {s₁ : Shared} {oI oC oD : Obj} {S : List (Addr × Obj) → Prop} {K : Value → List (Addr × Obj) → Prop} {tk j : Nat} {c : Addr} {all base tups : List (Addr × Obj)} {ys : List Value} {f : Nat → List (Int × Int)} {p : Int × Int} {t u : Tok}
    (F : Fr h₀ L h' m) (N : News h₀ L h' all) (hK : ∀ y n', FInv base c f (j + 1) (ys ++ [y]) n' → K y n') (hY : TupsOf ys (f j) tups) (hc : ∀ q ∈ tups, @Ne Nat q.1 c) (hTc : @Ne Nat T c) (hb : SubL ((I, oI) :: (C, oC) :: (D, oD) :: base) all) (ht : ∀ q ∈ tups, q ∈ all) (hT : (T, pairObj p t u) ∈ all)
    (off : LCg.Off3 I C D (base ++ tups)) (ne : (@Ne Nat T I) ∧ (@Ne Nat T C) ∧ (@Ne Nat T D)) (hS : ∀ n', S (base ++ n')) (hf : f (j + 1) = f j ++ [p]) :
    LCg.CompEnd h₀ L m s₁ I oI C oC D oD S K (.ref T) { s₁ with heap := h', toks := tk } :=
  keep_end (base := base) (tups := (T, pairObj p t u) :: tups) F N hb (fun q hq => by
    rcases List.mem_cons.mp hq with rfl | hq
    · exact hT
    · exact ht q hq) (off_snoc off ne) (hS _) (hK _ _ ⟨_, rfl, by rw [hf]; exact hY.snoc, fun q hq => by
    rcases List.mem_cons.mp hq with rfl | hq
    · exact hTc
    · exact hc q hq⟩)
def TInv (base : List (Addr × Obj)) (M : Int) (B : List Int) (j : Nat) (zs : List Value) (news : List (Addr × Obj)) : Prop := news = base ∧ IntsAre zs ((B.take j).filter fun x => decide (x ≠ M))
theorem TInv.zero {base : List (Addr × Obj)} {M : Int} {B : List Int} : TInv base M B 0 [] base := ⟨rfl, .nil⟩
theorem ints_snoc {vs : List Value} {ns : List Int} {k : Int} {t : Tok} (h : IntsAre vs ns) : IntsAre (vs ++ [.int k t]) (ns ++ [k]) := by
  induction h with
  | nil => exact .cons k t .nil
  | cons a u _ ih => exact .cons a u ih
theorem TInv.yes {base : List (Addr × Obj)} {M : Int} {B : List Int} {j : Nat} {zs : List Value} {t : Tok} (h : IntsAre zs ((B.take j).filter fun x => decide (x ≠ M))) (hj : j < B.length) (hne : B.getD j 0 ≠ M) : TInv base M B (j + 1) (zs ++ [.int (B.getD j 0) t]) base :=
  ⟨rfl, by rw [take_filter _ hj, if_pos (by simpa using hne)]; exact ints_snoc h⟩
theorem TInv.no {base : List (Addr × Obj)} {M : Int} {B : List Int} {j : Nat} {zs : List Value} (h : IntsAre zs ((B.take j).filter fun x => decide (x ≠ M))) (hj : j < B.length) (hne : B.getD j 0 = M) : TInv base M B (j + 1) zs base :=
  ⟨rfl, by rw [take_filter _ hj, if_neg (by simpa using hne), List.append_nil]; exact h⟩
theorem max_is {B row : List Int} {i : Nat} {M : Int} {p : Int × Int} (hp : p ∈ B.map fun x => (nu row i x, x)) (hm : ∀ q ∈ B.map fun x => (nu row i x, x), q.1 < p.1 ∨ (q.1 = p.1 ∧ q.2 ≤ p.2)) (hM : M ∈ B)
    (hx : ∀ x ∈ B, nu row i x < nu row i M ∨ (nu row i x = nu row i M ∧ x ≤ M)) : p.2 = M := by
  obtain ⟨x, hxB, rfl⟩ := List.mem_map.mp hp
  have h1 := hm (nu row i M, M) (List.mem_map.mpr ⟨M, hM, rfl⟩)
  have h2 := hx x hxB
  dsimp only at h1 ⊢
  omega
/-- ahead of a turn of the best way's loop -/
def BInv (L l : Addr) (lo : Obj) (room : Int) (tr : Tok) (ns : List Int) (i : Nat) (m : Str → Option Value) (news : List (Addr × Obj)) : Prop :=
  ∃ oF oP oR H hs hn B c tc vF vP, oF.data = .cell vF ∧ oP.data = .cell vP ∧ oR.data = .cell (some (.ref l)) ∧ IntsAre hs B ∧ BelTo room.toNat ns i B c ∧
    m (Str.ofString "held") = some (.ref H) ∧ m (Str.ofString "loads") = some (.int (c : Int) tc) ∧ m (Str.ofString "room") = some (.int room tr) ∧
    (@LT.lt Nat _ (L + 1 + 1 + 1) H ∧ @LT.lt Nat _ (L + 1 + 1) H ∧ @LT.lt Nat _ (L + 1) H ∧ @LT.lt Nat _ l H) ∧ news = [(L + 1 + 1 + 1, oF), (L + 1 + 1, oP), (L + 1, oR), (l, lo), (H, W.listOf hs.toArray hn)]
section
variable {L l H : Addr} {lo oF oP oR : Obj} {room : Int} {tr tc : Tok} {ns B : List Int} {i c hn : Nat} {m' : Str → Option Value} {all its : List (Addr × Obj)} {hs : List Value} {vF vP : Option Value} {K : (Str → Option Value) → List (Addr × Obj) → Prop}
theorem BInv.go (hK : ∀ m' n' n₀, SubL n₀ n' → BInv L l lo room tr ns i m' n₀ → K m' n') (held : m' (Str.ofString "held") = some (.ref H)) (loads : m' (Str.ofString "loads") = some (.int (c : Int) tc)) (rm : m' (Str.ofString "room") = some (.int room tr))
    (hF : (L + 1 + 1 + 1, oF) ∈ all) (dF : oF.data = .cell vF) (hP : (L + 1 + 1, oP) ∈ all) (dP : oP.data = .cell vP) (hR : (L + 1, oR) ∈ all) (dR : oR.data = .cell (some (.ref l))) (hl : (l, lo) ∈ all) (hH : (H, W.listOf hs.toArray hn) ∈ all)
    (hB : IntsAre hs B) (hBel : BelTo room.toNat ns i B c) (lt : @LT.lt Nat _ (L + 1 + 1 + 1) H ∧ @LT.lt Nat _ (L + 1 + 1) H ∧ @LT.lt Nat _ (L + 1) H ∧ @LT.lt Nat _ l H) : K m' all :=
  hK m' all [(L + 1 + 1 + 1, oF), (L + 1 + 1, oP), (L + 1, oR), (l, lo), (H, W.listOf hs.toArray hn)] ⟨hF, hP, hR, hl, hH, trivial⟩ ⟨oF, oP, oR, H, hs, hn, B, c, tc, vF, vP, dF, dP, dR, hB, hBel, held, loads, rm, lt, rfl⟩
theorem BInv.fin {h₀ h' : Heap} {L0 : Addr} {s₁ : Shared} {tk : Nat} (F : Fr h₀ L0 h' m') (N : News h₀ L0 h' all) (hK : ∀ m' n' n₀, SubL n₀ n' → BInv L l lo room tr ns i m' n₀ → K m' n') (held : m' (Str.ofString "held") = some (.ref H)) (loads : m' (Str.ofString "loads") = some (.int (c : Int) tc)) (rm : m' (Str.ofString "room") = some (.int room tr))
    (hF : (L + 1 + 1 + 1, oF) ∈ all) (dF : oF.data = .cell vF) (hP : (L + 1 + 1, oP) ∈ all) (dP : oP.data = .cell vP) (hR : (L + 1, oR) ∈ all) (dR : oR.data = .cell (some (.ref l))) (hl : (l, lo) ∈ all) (hH : (H, W.listOf hs.toArray hn) ∈ all)
    (hB : IntsAre hs B) (hBel : BelTo room.toNat ns i B c) (lt : @LT.lt Nat _ (L + 1 + 1 + 1) H ∧ @LT.lt Nat _ (L + 1 + 1) H ∧ @LT.lt Nat _ (L + 1) H ∧ @LT.lt Nat _ l H)
    (hits : SubL its all) (off : OffW its [(L + 1 + 1 + 1, oF), (L + 1 + 1, oP), (L + 1, oR), (l, lo), (H, W.listOf hs.toArray hn)]) : UnrEndW h₀ L0 s₁ its (fun m' n' => SubL [(l, lo)] n' ∧ K m' n') { s₁ with heap := h', toks := tk } :=
  UnrEndW.intro F N [(L + 1 + 1 + 1, oF), (L + 1 + 1, oP), (L + 1, oR), (l, lo), (H, W.listOf hs.toArray hn)] hits ⟨hF, hP, hR, hl, hH, trivial⟩ off
    ⟨⟨.tail _ (.tail _ (.tail _ (.head _))), trivial⟩, BInv.go hK held loads rm (.head _) dF (.tail _ (.head _)) dP (.tail _ (.tail _ (.head _))) dR (.tail _ (.tail _ (.tail _ (.head _)))) (.tail _ (.tail _ (.tail _ (.tail _ (.head _))))) hB hBel lt⟩
end
theorem not_any {B : List Int} {k : Int} (h : (B.any fun x => x == k) = false) : k ∉ B := fun hz => by
  rw [List.any_eq_false] at h
  exact h k hz (beq_self_eq_true k)
theorem is_any {B : List Int} {k : Int} (h : (B.any fun x => x == k) = true) : k ∈ B := by
  obtain ⟨z, hz, e⟩ := List.any_eq_true.mp h
  rw [← (beq_iff_eq.mp e : z = k)]; exact hz
end Mine
end
section
open PySem PySem.W PySem.Spec PySem.Calls PyProof.Rows
namespace Mine
/-- p taken out of a ledger -/
inductive Pick1 (p : Addr × Obj) : List (Addr × Obj) → List (Addr × Obj) → Prop
  | here {r} : Pick1 p (p :: r) r
  | there {q r r'} : Pick1 p r r' → Pick1 p (q :: r) (q :: r')
inductive Pick : List (Addr × Obj) → List (Addr × Obj) → List (Addr × Obj) → Prop
  | nil {n} : Pick [] n n
  | cons {p own n n1 n2} : Pick1 p n n1 → Pick own n1 n2 → Pick (p :: own) n n2
theorem Pick1.of {p : Addr × Obj} {n r : List (Addr × Obj)} (h : Pick1 p n r) : p ∈ n ∧ ∀ q ∈ r, q ∈ n := by
  induction h with
  | here => exact ⟨List.mem_cons_self, fun q hq => List.mem_cons_of_mem _ hq⟩
  | there _ ih =>
    refine ⟨List.mem_cons_of_mem _ ih.1, fun q hq => ?_⟩
    rcases List.mem_cons.mp hq with rfl | hq
    · exact List.mem_cons_self
    · exact List.mem_cons_of_mem _ (ih.2 q hq)
theorem Pick.own {own n r : List (Addr × Obj)} (h : Pick own n r) : ∀ q ∈ own, q ∈ n := by
  induction h with
  | nil => intro q hq; cases hq
  | cons a _ ih =>
    intro q hq
    rcases List.mem_cons.mp hq with rfl | hq
    · exact a.of.1
    · exact a.of.2 q (ih q hq)
theorem Pick.rest {own n r : List (Addr × Obj)} (h : Pick own n r) : ∀ q ∈ r, q ∈ n := by
  induction h with
  | nil => exact fun q hq => hq
  | cons a _ ih => exact fun q hq => a.of.2 q (ih q hq)
theorem Pick.all {own n r : List (Addr × Obj)} (h : Pick own n r) : ∀ q ∈ own ++ r, q ∈ n := fun q hq => by
  rcases List.mem_append.mp hq with hq | hq
  · exact h.own q hq
  · exact h.rest q hq
def OffA (a : Addr) : List (Addr × Obj) → Prop
  | [] => True
  | q :: r => (@Ne Nat q.1 a) ∧ OffA a r
def OffP : List (Addr × Obj) → List (Addr × Obj) → Prop
  | [], _ => True
  | p :: r, rest => OffA p.1 rest ∧ OffP r rest
theorem OffA.of {a : Addr} : ∀ {l : List (Addr × Obj)}, OffA a l → ∀ q ∈ l, q.1 ≠ a
  | [], _, _, h => nomatch h
  | _ :: _, x, q, h => by
    rcases List.mem_cons.mp h with rfl | h
    · exact x.1
    · exact OffA.of x.2 q h
theorem OffP.of : ∀ {own rest : List (Addr × Obj)}, OffP own rest → ∀ q ∈ rest, q.1 ∉ own.map (·.1)
  | [], _, _, _, _, h => nomatch h
  | p :: r, rest, x, q, hq, h => by
    rcases List.mem_cons.mp h with h | h
    · exact OffA.of x.1 q hq h
    · exact OffP.of x.2 q hq h

section
variable {prog : Program} {w : World} {A A₀ : Around} {E : Value → Shared → Prop} {s : Shared} {base h₀ : Heap} {outer : List Env} {env : Env} {L : Addr} {m mg mb : Str → Option Value} {news rest : List (Addr × Obj)} {lse : List Str} {mean : ExcName → Option Value} {KK : Params → Frag} {q : Program} {fn l : Addr}
  {vs : List Value} {n : Nat} {ns : List Int} {room : Int} {t : Tok} {Q : Value → Shared → Prop}
theorem BestSpec.call (d : BestSpec (prog := prog) KK q fn) (B : Below A₀ base outer h₀) (F : Fr h₀ L s.heap m) (X : (KK w.params).In h₀) (N : News h₀ L s.heap news) (T : Top q lse mean mg mb h₀) (hh : A.handled = none) (hA : A.frames = some (env :: outer)) (hf : env.frame = some L) (hke : env.scope.kind = .function)
    (hd : A.depth ≤ 400) (hu : A.units ≤ 400) (pick : Pick [(l, W.listOf vs.toArray n)] news rest) (off : OffP [(l, W.listOf vs.toArray n)] rest) (hI : IntsAre vs ns) (hn : ns.length ≤ 16) (m1 : 1 ≤ room) (m2 : room ≤ 12)
    (h : ∀ h' tk best Bh t', Fr h₀ L h' m → News h₀ L h' ((l, W.listOf vs.toArray n) :: rest) → BelTo room.toNat ns ns.length Bh best → Q (.int (best : Int) t') { s with heap := h', toks := tk }) :
    wpAny (model prog w) A (call (.ref fn) [.ref l, .int room t]) Q E s := by
  refine wpAny_call ?_
  refine hand (A := A) B F X N T hA hf hke [(l, W.listOf vs.toArray n)] rest pick.own pick.rest off.of fun g ft Bg Xg Tg back => ?_
  refine code_up (d (R := _) ⟨rfl, Bg.stays, Bg.frames⟩ Xg Tg ft hI hn m1 m2 fun h' tk best Bh t' ft' hb => ?_) hh hA hd hu
  obtain ⟨F', N'⟩ := back h' _ ft'
  exact h h' tk best Bh t' F' N' hb
end

section
variable {prog : Program} {K : Type} [DecidableEq K] {KK : Params → Frag} {q : Program} {knd : ∀ w, PySem.KeyKind prog w K} {C : Addr} {on : Str}
variable {w : World} {A : Around} {s : Shared} {h₀ : Heap} {env : Env} {L : Addr} {m mg mb : Str → Option Value} {news rest : List (Addr × Obj)} {lse : List Str} {mean : ExcName → Option Value}
variable {D fn : Addr} {args : Loc → K → Tok → Value → List Value} {Pre : Loc → Int → List (K × Value) → List (K × Value) → K → Value → Value → Prop} {Post : Loc → Int → List (K × Value) → List (K × Value) → K → Value → Value → Value × Int × List (K × Value) × List (K × Value)}
variable {Q : Value → Shared → Prop} {E : Value → Shared → Prop} {c : Loc} {cur : Int} {te : Tok} {o1 o2 : Obj} {kvs ov : List (K × Value)} {k : K} {v dv : Value} {tk : Tok} {as : List Value}
/-- a deed done from the law's own frame: all else stays -/
theorem Deed.law (d : Deed KK q knd C on D fn args Pre Post) (F : Fr h₀ L s.heap m) (X : (KK w.params).In h₀) (N : News h₀ L s.heap news) (T : Top q lse mean mg mb h₀) (hh : A.handled = none) (hA : A.frames = some [env]) (hf : env.frame = some L) (hke : env.scope.kind = .function) (hd : A.depth ≤ D) (hu : A.units ≤ D)
    (pick : Pick (led w.params C on c cur te o1 o2) news rest) (off : OffP (led w.params C on c cur te o1 o2) rest) (D1 : o1.IsDictOf (knd w) kvs) (D2 : o2.IsDictOf (knd w) ov) (ok : c.Ok) (ha : as = args c k tk dv) (hp : Pre c cur kvs ov k v dv)
    (h : ∀ h' tk' te' p1 p2, Fr h₀ L h' m → News h₀ L h' (led w.params C on c (Post c cur kvs ov k v dv).2.1 te' p1 p2 ++ rest) → p1.IsDictOf (knd w) (Post c cur kvs ov k v dv).2.2.1 → p2.IsDictOf (knd w) (Post c cur kvs ov k v dv).2.2.2 →
      Q (Post c cur kvs ov k v dv).1 { s with heap := h', toks := tk' }) : wpAny (model prog w) A (call (.ref fn) as) Q E s := by
  subst ha
  refine wpAny_call ?_
  have hL₀ : h₀.get? L = none := Heap.get?_none_of_le F.above
  have No : ∀ p ∈ led w.params C on c cur te o1 o2, s.heap.get? p.1 = some p.2 ∧ p.1 ≠ L ∧ h₀.get? p.1 = none := fun p hp => N p (pick.own p hp)
  obtain ⟨oL, es, ep, hL, hLd, hLk, hLf⟩ := F.ns
  have nL : L ∉ (led w.params C on c cur te o1 o2).map (·.1) := fun z => by
    obtain ⟨p, hp, e⟩ := List.mem_map.mp z
    exact (No p hp).2.1 e
  have n0 : ∀ b o, h₀.get? b = some o → b ∉ (led w.params C on c cur te o1 o2).map (·.1) := fun b o e z => by
    obtain ⟨p, hp, rfl⟩ := List.mem_map.mp z
    rw [(No p hp).2.2] at e; cases e
  have gL : (hideAll s.heap ((led w.params C on c cur te o1 o2).map (·.1))).get? L = some oL := hideAll_get _ hL nL
  have bst : ∀ b o, s.heap.get? b = some o → b ∉ (led w.params C on c cur te o1 o2).map (·.1) → b ≠ L → (hideAll (hideAll s.heap ((led w.params C on c cur te o1 o2).map (·.1))) [L]).get? b = some o := fun b o e hb hl => hideAll_get _ (hideAll_get _ e hb) (by simpa using hl)
  have st0 : h₀.StaysIn (hideAll (hideAll s.heap ((led w.params C on c cur te o1 o2).map (·.1))) [L]) := fun b o e => bst b o (F.keep b o e) (n0 b o e) (fun z => by rw [z, hL₀] at e; cases e)
  have B : Below (arnd D D [env] A.guards) (hideAll (hideAll s.heap ((led w.params C on c cur te o1 o2).map (·.1))) [L]) [env] (hideAll s.heap ((led w.params C on c cur te o1 o2).map (·.1))) :=
    ⟨rfl, fun b o e => of_hideAll _ e, Heap.FunFrames.cons (by rw [hke]; decide) hf ⟨oL, es, ep, gL, hLd, hLk, hLf⟩ (hideAll_none _ (List.mem_singleton.mpr rfl)) trivial⟩
  refine code_up (d (R := _) ⟨B, Nat.le_of_eq (hideAll_size _ _), X.keeps st0, T.keeps st0⟩ ok ⟨te, o1, o2, ⟨fun b o e => of_hideAll _ e, Nat.le_of_eq (hideAll_size _ _), fun p hp => ⟨(No p hp).1, hideAll_none _ (List.mem_map_of_mem hp)⟩⟩, D1, D2⟩ hp fun g' h' tk' u cc => ?_) hh hA hd hu
  obtain ⟨te', p1, p2, ft', D1', D2'⟩ := cc
  have st1 : h₀.StaysIn h' := fun b o e => ft'.1 b o (u.stays b o (st0 b o e))
  obtain ⟨sl, qL⟩ := u.up L oL gL fun vs z => by rw [hLd] at z; cases z
  refine h h' tk' te' p1 p2 ⟨⟨_, es, ep, ft'.1 _ _ qL, hLd, hLk, hLf⟩, st1, F.above⟩ (fun p hp => ?_) D1' D2'
  rcases List.mem_append.mp hp with hp | hp
  · have z := ft'.2.2 p hp
    refine ⟨z.1, fun e => ?_, ?_⟩
    · rw [e, qL] at z; exact nomatch z.2
    · cases e : h₀.get? p.1 with
      | none => rfl
      | some o => have := u.stays _ _ (st0 _ _ e); rw [z.2] at this; cases this
  · have z := N p (pick.rest p hp)
    exact ⟨ft'.1 _ _ (u.stays _ _ (bst _ _ z.1 (off.of p hp) z.2.1)), z.2⟩
end

theorem subL_of : ∀ {l all : List (Addr × Obj)}, (∀ p ∈ l, p ∈ all) → SubL l all
  | [], _, _ => trivial
  | _ :: _, _, h => ⟨h _ List.mem_cons_self, subL_of fun p hp => h p (List.mem_cons_of_mem _ hp)⟩
section
variable {prog : Program} {w : World} {A : Around} {E : Value → Shared → Prop} {s : Shared} {env : Env} {h₀ : Heap} {x : Str} {px : Pos} {body : List Stmt} {Q : Flow → Shared → Prop} {ws : List (Addr × String)} {keep : List (Addr × Obj)}
theorem News.cut {g : Heap} {L : Addr} {h : Heap} {l l' : List (Addr × Obj)} (N : News g L h l) (hs : SubL l' l) : News g L h l' := fun p hp => N p (hs.mem p hp)
def rangeItems (a : Int) (n : Nat) (i : Nat) : List Itm := (List.range' i (n - i)).map fun (j : Nat) => Itm.tok fun t => .int (a + (j : Int)) t
/-- a loop over range -/
theorem iter_rangeTurns {r : Addr} {a b : Int} {t u v : Tok} {n : Nat} {m₀ : Str → Option Value} {news : List (Addr × Obj)}
    (hh : A.handled = none) (F : Fr h₀ env.locals s.heap m₀) (N : News h₀ env.locals s.heap news) (hr : IsRange s.heap r a b 1 t u v) (hsm : Builtin.Range.small a b 1 = true) (hn : Builtin.Range.rangeSize a b 1 = ((n : Nat) : Int))
    (rest₀ : ∀ I : Addr, (∀ p ∈ news, p.1 < I) → ItemsRest prog w A E h₀ env (.Name x px) body Q s [(I, "range_iterator")] [] (rangeItems a n 0) m₀ news) :
    wpAny (model prog w) A (pyIter (.ref r)) (fun it s₂ => TurnsAt prog w A h₀ env (.Name x px) body Q E it s₂) E s := by
  refine wpAny_pyIter_range hr hsm ?_
  refine ktu_core (tk0 := s.toks) (keep := []) (KTurns.ofWalks (Walks.range hh s.heap.objs.size a 1 n).bound fun i v s Q E st q => wpAny_of_eq (rfl : letOwnedTupleGo (.Name x px) (.ref _) v = pure ()) q) (by simp [rangeItems]) (fun i v h hp => ?_) (fun i h st => ?_) (fun b hb => ?_) (fun b hb => by simpa using hb) (fun b hb => .inl (by simpa using hb)) ?_ (fun p hp hI => ?_) ?_ (F.keeps fun _ _ e => Heap.get?_push_of_some _ e) (N.grown fun _ _ e => Heap.get?_push_of_some _ e) trivial (rest₀ _ fun p hp => Heap.lt_size (N p hp).1)
  · obtain ⟨hi, t, rfl⟩ := hp
    refine ⟨.tok fun t => .int (a + (i : Int)) t, ?_, t, by rw [Int.mul_one]⟩
    simp [rangeItems, hi]
  · exact ⟨[(s.heap.objs.size, _)], ⟨⟨rfl, rfl⟩, trivial⟩, fun p hp => by rw [List.mem_singleton.mp hp]; exact st⟩
  · have hb' : b = s.heap.objs.size := by simpa using hb
    rw [hb']
    exact ⟨List.mem_singleton.mpr rfl, next_is_new F⟩
  · intro hI
    exact absurd F.ns.lt ((List.mem_singleton.mp hI) ▸ Nat.lt_irrefl _)
  · exact absurd (Heap.lt_size (N p hp).1) ((List.mem_singleton.mp hI) ▸ Nat.lt_irrefl _)
  · show IsRangeIter _ _ _ _ _
    rw [hn]; simpa using Heap.get?_push_size _ rfl
theorem range_inv {a : Int} {n : Nat} (Inv : Nat → (Str → Option Value) → List (Addr × Obj) → Prop)
    (step : ∀ i m news (K : (Str → Option Value) → List (Addr × Obj) → Prop), i < n → Inv i m news → (∀ m' n' n₀, SubL n₀ n' → Inv (i + 1) m' n₀ → K m' n') →
      ∀ t h tk, Fr h₀ env.locals h m → AllObj ws (fun its => News h₀ env.locals h (its ++ news) →
        wpAny (model prog w) A (assign (.Name x px) env (.int (a + (i : Int)) t)) (fun _ s₂ => wpAny (model prog w) A (execs body env) (UnrPostW h₀ env.locals { s with heap := h, toks := tk } its (fun m' n' => SubL keep n' ∧ K m' n') Q) E s₂) E { s with heap := h, toks := tk }))
    (fin : ∀ m news, Inv n m news → ∀ h tk, Fr h₀ env.locals h m → News h₀ env.locals h news → Q .next { s with heap := h, toks := tk })
    {m : Str → Option Value} {news own base : List (Addr × Obj)} (pick : Pick own news base) (h0 : Inv 0 m (own ++ base)) : ItemsRest prog w A E h₀ env (.Name x px) body Q s ws keep (rangeItems a n 0) m news := by
  have cons_ : ∀ i, i < n → rangeItems a n i = .tok (fun t => .int (a + (i : Int)) t) :: rangeItems a n (i + 1) := fun i hi => by
    unfold rangeItems
    rw [show n - i = (n - (i + 1)) + 1 from by omega, List.range'_succ]
    rfl
  exact items_inv (prog := prog) (w := w) (A := A) (E := E) (s := s) (env := env) (h₀ := h₀) (target := .Name x px) (body := body) (Q := Q) (ws := ws) (keep := keep) (n := n) (fun i => rangeItems a n i) Inv (by simp [rangeItems])
    (fun i hi => ⟨_, cons_ i hi⟩)
    (fun i itm m news K hi ha hinv hK v h tk hv F => by
      cases List.cons.inj (ha.symm.trans (cons_ i hi)) |>.1
      obtain ⟨t, rfl⟩ := hv
      exact step i m news K hi hinv hK t h tk F) fin n 0 m news (own ++ base) (by omega) pick.all h0
theorem enum_pick {elts : List PySem.Expr} {k : Nat} {pos : Pos} {vs : List Value} (Inv : Nat → (Str → Option Value) → List (Addr × Obj) → Prop)
    (step : ∀ i x m news (K : (Str → Option Value) → List (Addr × Obj) → Prop), vs[i]? = some x → Inv i m news → (∀ m' n' n₀, SubL n₀ n' → Inv (i + 1) m' n₀ → K m' n') →
      ∀ T t h tk, IsTup h T #[.int (i : Int) t, x] → Fr h₀ env.locals h m → AllObj ws (fun its => News h₀ env.locals h (its ++ news) →
        wpAny (model prog w) A (assign (.Tuple elts k pos) env (.ref T)) (fun _ s₂ => wpAny (model prog w) A (execs body env) (UnrPostW h₀ env.locals { s with heap := h, toks := tk } its (fun m' n' => SubL keep n' ∧ K m' n') Q) E s₂) E { s with heap := h, toks := tk }))
    (fin : ∀ m news, Inv vs.length m news → ∀ h tk, Fr h₀ env.locals h m → News h₀ env.locals h news → Q .next { s with heap := h, toks := tk })
    {m : Str → Option Value} {news own base : List (Addr × Obj)} (pick : Pick own news base) (h0 : Inv 0 m (own ++ base)) : ItemsRest prog w A E h₀ env (.Tuple elts k pos) body Q s ws keep (enumItems 0 vs) m news := by
  exact enum_inv Inv step fin (own ++ base) (subL_of pick.all) h0
end
/-- marks that switch rules of the walk on and off -/
inductive Mark : Prop | mk
inductive MarkB : Prop | mk
inductive MarkL : Prop | mk
structure Box (p : Prop) : Prop where
  out : p
section
variable {M : Model} {A : Around} {E : Value → Shared → Prop} {s : Shared} {h₀ : Heap} {L : Addr} {m : Str → Option Value} {Q : Value → Shared → Prop} {e : Sem Value}
/-- a list of at most 16 ints -/
def RowAt (h₀ : Heap) (L : Addr) (m : Str → Option Value) (s : Shared) (v : Value) (s' : Shared) : Prop :=
  ∃ D vs n ns h tk, v = .ref D ∧ s' = { s with heap := h, toks := tk } ∧ Fr h₀ L h m ∧ News h₀ L h [(D, W.listOf vs.toArray n)] ∧ IntsAre vs ns ∧ ns.length ≤ 16
theorem RowAt.intro {D : Addr} {vs : List Value} {n tk : Nat} {ns : List Int} {h : Heap} {news : List (Addr × Obj)} (F : Fr h₀ L h m) (N : News h₀ L h news) (hm : (D, W.listOf vs.toArray n) ∈ news) (hI : IntsAre vs ns) (hz : ns.length ≤ 16) : RowAt h₀ L m s (.ref D) { s with heap := h, toks := tk } :=
  ⟨D, vs, n, ns, h, tk, rfl, rfl, F, fun p hp => by rw [List.mem_singleton.mp hp]; exact N _ hm, hI, hz⟩
theorem RowAt.introA {D : Addr} {its : Array Value} {n tk : Nat} {ns : List Int} {h : Heap} {news : List (Addr × Obj)} (F : Fr h₀ L h m) (N : News h₀ L h news) (hm : (D, W.listOf its n) ∈ news) (hI : IntsAre its.toList ns) (hz : ns.length ≤ 16) : RowAt h₀ L m s (.ref D) { s with heap := h, toks := tk } :=
  RowAt.intro (vs := its.toList) (n := n) F N (by rw [Array.toArray_toList]; exact hm) hI hz
theorem or_join {x : Int} {tr : Tok} (_F : Fr h₀ L s.heap m) (hr : m (Str.ofString "room") = some (.int (1 + Int.fmod x 4) tr)) (h : wpAny M A e (RowAt h₀ L m s) E s)
    (k : ∀ D vs n ns h tk m' room tr, 1 ≤ room → room ≤ 4 → m' (Str.ofString "room") = some (.int room tr) → Fr h₀ L h m' → News h₀ L h [(D, W.listOf vs.toArray n)] → IntsAre vs ns → ns.length ≤ 16 → Q (.ref D) { s with heap := h, toks := tk }) : wpAny M A e Q E s :=
  wpAny_mono h (fun v s' ⟨D, vs, n, ns, h, tk, e1, e2, F, N, hI, hz⟩ => by
    subst e1; subst e2
    have h1 := Int.fmod_nonneg_of_pos x (show (0 : Int) < 4 by decide)
    have h2 := Int.fmod_lt_of_pos x (show (0 : Int) < 4 by decide)
    exact k D vs n ns h tk m _ tr (by omega) (by omega) hr F N hI hz) fun _ _ e => e
end
end Mine
end
section
open PySem PySem.W PySem.Spec PySem.Calls PyProof.Rows PyProof.V
namespace Mine
section
variable {K : Type} [DecidableEq K]
theorem valueAt_nil (k : K) : valueAt ([] : List (K × Value)) k = none := rfl
theorem valueAt_cons (a : K × Value) (r : List (K × Value)) (k : K) : valueAt (a :: r) k = if a.1 = k then some a.2 else valueAt r k := by
  unfold valueAt
  rw [List.find?_cons]
  by_cases h : a.1 = k <;> simp [h]
theorem valueAt_none {kvs : List (K × Value)} {k : K} (h : k ∉ kvs.map (·.1)) : valueAt kvs k = none := PyProof.Rows.valueAt_none_of_not_mem h
theorem not_mem_of {kvs : List (K × Value)} {k : K} (h : valueAt kvs k = none) : k ∉ kvs.map (·.1) := by
  induction kvs with
  | nil => simp
  | cons a r ih =>
    rw [valueAt_cons] at h
    by_cases ha : a.1 = k
    · rw [if_pos ha] at h; cases h
    · rw [if_neg ha] at h
      rw [List.map_cons, List.mem_cons, not_or]
      exact ⟨fun z => ha z.symm, ih h⟩
theorem valueAt_app {kvs r : List (K × Value)} {k : K} : valueAt (kvs ++ r) k = (valueAt kvs k).or (valueAt r k) := by
  induction kvs with
  | nil => simp [valueAt_nil]
  | cons a l ih =>
    rw [List.cons_append, valueAt_cons, valueAt_cons, ih]
    by_cases h : a.1 = k <;> simp [h]
theorem valueAt_stored (kvs : List (K × Value)) (k : K) (v : Value) : valueAt (stored kvs k v) k = some v := by
  cases h : valueAt kvs k with
  | none => rw [stored_absent h, valueAt_app, h, valueAt_cons]; simp
  | some u =>
    unfold stored
    rw [if_pos (by rw [← valueAt_isSome_eq_any, h]; rfl)]
    induction kvs with
    | nil => cases h
    | cons a l ih =>
      rw [List.map_cons, valueAt_cons]
      rw [valueAt_cons] at h
      by_cases ha : a.1 = k
      · simp [ha]
      · rw [if_neg ha] at h
        simp only [if_neg ha]
        exact ih h
theorem valueAt_other {kvs : List (K × Value)} {k j : K} {v : Value} (hj : j ≠ k) : valueAt (stored kvs k v) j = valueAt kvs j := by
  unfold stored
  split
  · induction kvs with
    | nil => rfl
    | cons a l ih =>
      rw [List.map_cons, valueAt_cons, valueAt_cons]
      by_cases ha : a.1 = k
      · have : a.1 ≠ j := fun z => hj (z.symm.trans ha)
        have h2 : k ≠ j := fun z => hj z.symm
        simp only [if_pos ha, if_neg this, if_neg h2]
        by_cases hl : (l.any fun kv => decide (kv.1 = k)) = true
        · exact ih hl
        · have : l.map (fun kv => if kv.1 = k then (kv.1, v) else kv) = l := by
            have h3 : ∀ x ∈ l, (fun kv : K × Value => if kv.1 = k then (kv.1, v) else kv) x = id x := fun x hx => by
              have : x.1 ≠ k := fun z => hl (List.any_eq_true.mpr ⟨x, hx, by simpa using z⟩)
              simp [this]
            rw [List.map_congr_left h3, List.map_id]
          rw [this]
      · simp only [if_neg ha]
        rename_i hany
        rw [List.any_cons] at hany
        have : (l.any fun kv => decide (kv.1 = k)) = true := by simpa [ha] using hany
        rw [ih this]
  · rw [valueAt_app, valueAt_cons, valueAt_nil]
    have : k ≠ j := fun z => hj z.symm
    simp [this]
theorem valueAt_without {kvs : List (K × Value)} {k j : K} (hj : j ≠ k) : valueAt (without kvs k) j = valueAt kvs j := by
  unfold without
  induction kvs with
  | nil => rfl
  | cons a l ih =>
    rw [List.filter_cons, valueAt_cons]
    by_cases ha : a.1 = k
    · have : a.1 ≠ j := fun z => hj (z.symm.trans ha)
      simp only [ha, ne_eq, not_true, decide_false, Bool.false_eq_true, if_false]
      rw [ih, if_neg (by rw [← ha]; exact this)]
    · simp only [ne_eq, ha, not_false_eq_true, decide_true, if_true]
      rw [valueAt_cons, ih]
theorem without_keys {kvs : List (K × Value)} {k : K} : (without kvs k).map (·.1) = (kvs.map (·.1)).filter fun x => decide (x ≠ k) := by
  unfold without
  rw [List.filter_map]; rfl
theorem nones_keys (ord : List K) : (nones ord).map (·.1) = ord := by
  unfold nones
  rw [List.map_map]
  exact List.map_id _
theorem nones_some {ord : List K} {k : K} (h : k ∈ ord) : valueAt (nones ord) k = some .none := by
  induction ord with
  | nil => cases h
  | cons a r ih =>
    show valueAt ((a, Value.none) :: nones r) k = _
    rw [valueAt_cons]
    by_cases ha : a = k
    · simp [ha]
    · rw [if_neg ha]
      exact ih ((List.mem_cons.mp h).resolve_left fun z => ha z.symm)
theorem nones_none {ord : List K} {k : K} (h : k ∉ ord) : valueAt (nones ord) k = none := valueAt_none (by rw [nones_keys]; exact h)
theorem nones_stored {ord : List K} {k : K} (h : k ∉ ord) : stored (nones ord) k .none = nones (ord ++ [k]) := by
  rw [stored_absent (nones_none h)]
  unfold nones
  rw [List.map_append]; rfl
theorem nones_without (ord : List K) (k : K) : without (nones ord) k = nones (ord.filter fun x => decide (x ≠ k)) := by
  unfold without nones
  rw [List.filter_map]; rfl
theorem erase_filter {ord : List K} {k : K} (h : ord.Nodup) : (ord.filter fun x => decide (x ≠ k)) = ord.erase k := by
  rw [h.erase_eq_filter]
  congr 1
  funext x
  by_cases hx : x = k <;> simp [hx]
end
/-- what holds of a cache after i asks -/
structure Core (room : Nat) (ns : List Int) (i : Nat) (ord : List Int) (kvs lkv : List (Int × Value)) (lds : List Nat) : Prop where
  perm : (kvs.map (·.1)).Perm ord
  val : ∀ k ∈ ord, ∃ p t, valueAt kvs k = some (.int p t) ∧ valueAt lkv k = some (.int p t)
  pol : PolTo room ns i ord lds.length
  ldd : Ldd room ns i ord lds
  lk : lkv.length ≤ i
  ll : lds.length ≤ i
theorem PolTo.len {room : Nat} {row : List Int} {i c : Nat} {B : List Int} (h : PolTo room row i B c) : B.length ≤ room := by
  cases h with
  | zero => exact Nat.zero_le _
  | hit _ _ _ f => exact f.len
  | load _ _ _ f => exact f.len
section
variable {room : Nat} {ns : List Int} {i : Nat} {ord : List Int} {kvs lkv : List (Int × Value)} {lds : List Nat} {k : Int}
theorem Core.zero : Core room ns 0 [] [] [] [] := ⟨.refl _, fun k h => (nomatch h), .zero, .zero, Nat.le_refl _, Nat.le_refl _⟩
theorem Core.len (h : Core room ns i ord kvs lkv lds) : kvs.length = ord.length := by
  have := h.perm.length_eq
  rwa [List.length_map] at this
theorem Core.none (h : Core room ns i ord kvs lkv lds) (hk : k ∉ ord) : valueAt kvs k = .none := valueAt_none fun z => hk (h.perm.mem_iff.mp z)
theorem Core.stay (h : Core room ns i ord kvs lkv lds) (hr : ns[i]? = some k) (hk : k ∈ ord) : Core room ns (i + 1) ord kvs lkv lds :=
  ⟨h.perm, h.val, h.pol.hit hr hk (pol_stay h.pol.nodup h.pol.len hk), h.ldd.stay, Nat.le_succ_of_le h.lk, Nat.le_succ_of_le h.ll⟩
theorem Core.touch (h : Core room ns i ord kvs lkv lds) (hr : ns[i]? = some k) (hk : k ∈ ord) : Core room ns (i + 1) (ord.erase k ++ [k]) kvs lkv lds := by
  have hp : (ord.erase k ++ [k]).Perm ord := (List.perm_append_comm.trans (List.perm_cons_erase hk).symm)
  exact ⟨h.perm.trans hp.symm, fun j hj => h.val j (hp.mem_iff.mp hj), h.pol.hit hr hk (pol_touch h.pol.nodup h.pol.len hk), h.ldd.touch hr hk, Nat.le_succ_of_le h.lk, Nat.le_succ_of_le h.ll⟩
theorem Core.touched (h : Core room ns i ord kvs lkv lds) (hk : k ∈ ord) : stored (without (nones ord) k) k .none = nones (ord.erase k ++ [k]) := by
  rw [nones_without, erase_filter h.pol.nodup, nones_stored (fun z => ((List.Nodup.mem_erase_iff h.pol.nodup).mp z).1 rfl)]
theorem Core.load (h : Core room ns i ord kvs lkv lds) (hr0 : 0 < room) (hr : ns[i]? = some k) (hk : k ∉ ord) (hlt : ord.length < room) (t : Tok) :
    Core room ns (i + 1) (ord ++ [k]) (stored kvs k (.int i t)) (stored lkv k (.int i t)) (lds ++ [i]) := by
  have e : (if ord.length = room then ord.tail else ord) ++ [k] = ord ++ [k] := by rw [if_neg (by omega)]
  refine ⟨?_, fun j hj => ?_, ?_, ?_, ?_, by simp; exact h.ll⟩
  · rw [stored_absent (h.none hk), List.map_append]
    exact h.perm.append_right _
  · by_cases hjk : j = k
    · subst hjk; exact ⟨_, _, valueAt_stored _ _ _, valueAt_stored _ _ _⟩
    · rw [valueAt_other hjk, valueAt_other hjk]
      exact h.val j ((List.mem_append.mp hj).resolve_right fun z => hjk (List.mem_singleton.mp z))
  · rw [List.length_append, List.length_singleton, ← e]
    exact h.pol.load hr hk (pol_load hr0 h.pol.nodup h.pol.len hk)
  · rw [← e]; exact h.ldd.load h.pol.nodup h.pol.len hr hk
  · exact Nat.le_trans (stored_len _ _ _) (Nat.succ_le_succ h.lk)
theorem Core.drop {k0 : Int} {rest : List Int} (h : Core room ns i (k0 :: rest) kvs lkv lds) (hr0 : 0 < room) (hr : ns[i]? = some k) (hk : k ∉ k0 :: rest) (hlt : (k0 :: rest).length = room) (t : Tok) :
    Core room ns (i + 1) (rest ++ [k]) (stored (without kvs k0) k (.int i t)) (stored lkv k (.int i t)) (lds ++ [i]) := by
  have e : (if (k0 :: rest).length = room then (k0 :: rest).tail else (k0 :: rest)) ++ [k] = rest ++ [k] := by rw [if_pos hlt]; rfl
  have hnd := List.nodup_cons.mp h.pol.nodup
  have hk0 : k ≠ k0 := fun z => hk (z ▸ List.mem_cons_self)
  have hw : valueAt (without kvs k0) k = .none := by rw [valueAt_without hk0]; exact h.none hk
  refine ⟨?_, fun j hj => ?_, ?_, ?_, ?_, by simp; exact h.ll⟩
  · rw [stored_absent hw, List.map_append]
    refine List.Perm.append_right _ ?_
    rw [without_keys]
    have := h.perm.filter fun x => decide (x ≠ k0)
    refine this.trans ?_
    rw [List.filter_cons]
    simp only [ne_eq, not_true, decide_false, Bool.false_eq_true, if_false]
    rw [List.filter_eq_self.mpr fun x hx => by simpa using fun z : x = k0 => hnd.1 (z ▸ hx)]
  · by_cases hjk : j = k
    · subst hjk; exact ⟨_, _, valueAt_stored _ _ _, valueAt_stored _ _ _⟩
    · have hjr := (List.mem_append.mp hj).resolve_right fun z => hjk (List.mem_singleton.mp z)
      have hj0 : j ≠ k0 := fun z => hnd.1 (z ▸ hjr)
      rw [valueAt_other hjk, valueAt_other hjk, valueAt_without hj0]
      exact h.val j (List.mem_cons_of_mem _ hjr)
  · rw [List.length_append, List.length_singleton, ← e]
    exact h.pol.load hr hk (pol_load hr0 h.pol.nodup h.pol.len hk)
  · rw [← e]; exact h.ldd.load h.pol.nodup h.pol.len hr hk
  · exact Nat.le_trans (stored_len _ _ _) (Nat.succ_le_succ h.lk)
theorem Core.dropped {k0 : Int} {rest : List Int} (h : Core room ns i (k0 :: rest) kvs lkv lds) (hk : k ∉ k0 :: rest) : stored (without (nones (k0 :: rest)) k0) k .none = nones (rest ++ [k]) := by
  have hnd := List.nodup_cons.mp h.pol.nodup
  rw [nones_without, List.filter_cons]
  simp only [ne_eq, not_true, decide_false, Bool.false_eq_true, if_false]
  rw [List.filter_eq_self.mpr fun x hx => by simpa using fun z : x = k0 => hnd.1 (z ▸ hx), nones_stored fun z => hk (List.mem_cons_of_mem _ z)]
theorem Core.full {k0 : Int} {rest : List Int} {c : Loc} (h : Core room ns i (k0 :: rest) kvs lkv lds) (hk : k ∉ k0 :: rest) (hlt : (k0 :: rest).length = room) (hm : c.mx = (room : Int)) (h1 : 1 ≤ room) (h4 : room ≤ 4) :
    FullPre c ((k0 :: rest).length : Int) kvs (nones (k0 :: rest)) k := by
  have hk0 : k ≠ k0 := fun z => hk (z ▸ List.mem_cons_self)
  obtain ⟨p, t, hv, _⟩ := h.val k0 List.mem_cons_self
  have hl := h.len
  have hl2 : rest.length + 1 = room := hlt
  have hl3 : kvs.length = rest.length + 1 := hl
  refine ⟨k0, _, nones rest, rfl, by rw [hm, hlt], hv, h.none hk, by rw [valueAt_without hk0]; exact h.none hk, by rw [valueAt_without hk0]; exact nones_none hk, by omega, by omega, by omega, by unfold nones; rw [List.length_map]; omega⟩
end
section
variable {prog : Program} {w : World} (P : Params) (knd : PySem.KeyKind prog w Int) (C : Addr) (on : Str) (c : Loc) (Lo Ld D : Addr) (room : Int) (tr : Tok) (best : Int) (tb : Tok) (ns : List Int) (base : List (Addr × Obj))
/-- ahead of a turn of the law's loop over the asks -/
def LInv (i : Nat) (m : Str → Option Value) (news : List (Addr × Obj)) : Prop :=
  ∃ cur te o1 o2 od kvs ov lkv ord lds lsv lsn, Core room.toNat ns i ord kvs lkv lds ∧ cur = (ord.length : Int) ∧ ov = nones ord ∧ o1.IsDictOf knd kvs ∧ o2.IsDictOf knd ov ∧ od.IsDictOf knd lkv ∧ IntsAre lsv (lds.map fun j => ((j : Nat) : Int)) ∧
    m (Str.ofString "cache") = some (.ref c.x) ∧ m (Str.ofString "loads") = some (.ref Lo) ∧ m (Str.ofString "loaded") = some (.ref Ld) ∧ m (Str.ofString "row") = some (.ref D) ∧ m (Str.ofString "room") = some (.int room tr) ∧ m (Str.ofString "best") = some (.int best tb) ∧
    news = (led P C on c cur te o1 o2 ++ [(Lo, W.listOf lsv.toArray lsn), (Ld, od)]) ++ base
end
section
variable {prog : Program} {w : World} {P : Params} {knd : PySem.KeyKind prog w Int} {C : Addr} {on : Str} {c : Loc} {Lo Ld D : Addr} {room : Int} {tr : Tok} {best : Int} {tb : Tok} {ns : List Int} {base all : List (Addr × Obj)} {i : Nat} {m : Str → Option Value}
  {cur : Int} {te : Tok} {o1 o2 od : Obj} {kvs ov lkv : List (Int × Value)} {ord : List Int} {lds : List Nat} {lsv : List Value} {lsn : Nat} {K : (Str → Option Value) → List (Addr × Obj) → Prop}
theorem LInv.go (hK : ∀ m' n' n₀, SubL n₀ n' → LInv P knd C on c Lo Ld D room tr best tb ns base i m' n₀ → K m' n') (hs : SubL ((led P C on c cur te o1 o2 ++ [(Lo, W.listOf lsv.toArray lsn), (Ld, od)]) ++ base) all)
    (core : Core room.toNat ns i ord kvs lkv lds) (hcur : cur = (ord.length : Int)) (hov : ov = nones ord) (D1 : o1.IsDictOf knd kvs) (D2 : o2.IsDictOf knd ov) (D3 : od.IsDictOf knd lkv) (hI : IntsAre lsv (lds.map fun j => ((j : Nat) : Int)))
    (m1 : m (Str.ofString "cache") = some (.ref c.x)) (m2 : m (Str.ofString "loads") = some (.ref Lo)) (m3 : m (Str.ofString "loaded") = some (.ref Ld)) (m4 : m (Str.ofString "row") = some (.ref D)) (m5 : m (Str.ofString "room") = some (.int room tr)) (m6 : m (Str.ofString "best") = some (.int best tb)) : K m all :=
  hK m all _ hs ⟨cur, te, o1, o2, od, kvs, ov, lkv, ord, lds, lsv, lsn, core, hcur, hov, D1, D2, D3, hI, m1, m2, m3, m4, m5, m6, rfl⟩
theorem LInv.zero (m2 : m (Str.ofString "loads") = some (.ref Lo)) (m3 : m (Str.ofString "loaded") = some (.ref Ld)) (m1 : m (Str.ofString "cache") = some (.ref c.x)) (m4 : m (Str.ofString "row") = some (.ref D)) (m5 : m (Str.ofString "room") = some (.int room tr)) (m6 : m (Str.ofString "best") = some (.int best tb))
    (D1 : o1.IsDictOf knd []) (D2 : o2.IsDictOf knd []) (D3 : od.IsDictOf knd []) : LInv P knd C on c Lo Ld D room tr best tb ns base 0 m ((led P C on c 0 te o1 o2 ++ [(Lo, W.listOf ([] : List Value).toArray lsn), (Ld, od)]) ++ base) :=
  ⟨0, te, o1, o2, od, [], [], [], [], [], [], lsn, .zero, rfl, rfl, D1, D2, D3, .nil, m1, m2, m3, m4, m5, m6, rfl⟩
end
section
variable {prog : Program} {w : World} {A : Around} {E : Value → Shared → Prop} {s : Shared} {env : Env} {h₀ : Heap} {body : List Stmt} {Q : Flow → Shared → Prop} {ws : List (Addr × String)} {keep : List (Addr × Obj)} {elts : List PySem.Expr} {k : Nat} {pos : Pos} {vs : List Value}
  {P : Params} {knd : PySem.KeyKind prog w Int} {C : Addr} {on : Str} {c : Loc} {Lo Ld D : Addr} {room : Int} {tr : Tok} {best : Int} {tb : Tok} {ns : List Int} {news base : List (Addr × Obj)} {m : Str → Option Value} {te : Tok} {o1 o2 od : Obj} {lsn : Nat}
theorem law_loop (P : Params) (knd : PySem.KeyKind prog w Int) (C : Addr) (on : Str) (c : Loc)
    (m2 : m (Str.ofString "loads") = some (.ref Lo)) (m3 : m (Str.ofString "loaded") = some (.ref Ld)) (m1 : m (Str.ofString "cache") = some (.ref c.x)) (m4 : m (Str.ofString "row") = some (.ref D)) (m5 : m (Str.ofString "room") = some (.int room tr)) (m6 : m (Str.ofString "best") = some (.int best tb))
    (pick : Pick (led P C on c 0 te o1 o2 ++ [(Lo, W.listOf ([] : List Value).toArray lsn), (Ld, od)]) news base) (D1 : o1.IsDictOf knd []) (D2 : o2.IsDictOf knd []) (D3 : od.IsDictOf knd [])
    (step : ∀ i x m news (K : (Str → Option Value) → List (Addr × Obj) → Prop), vs[i]? = some x → LInv P knd C on c Lo Ld D room tr best tb ns base i m news → (∀ m' n' n₀, SubL n₀ n' → LInv P knd C on c Lo Ld D room tr best tb ns base (i + 1) m' n₀ → K m' n') →
      ∀ T t h tk, IsTup h T #[.int (i : Int) t, x] → Fr h₀ env.locals h m → AllObj ws (fun its => News h₀ env.locals h (its ++ news) →
        wpAny (model prog w) A (assign (.Tuple elts k pos) env (.ref T)) (fun _ s₂ => wpAny (model prog w) A (execs body env) (UnrPostW h₀ env.locals { s with heap := h, toks := tk } its (fun m' n' => SubL keep n' ∧ K m' n') Q) E s₂) E { s with heap := h, toks := tk }))
    (fin : ∀ m news, LInv P knd C on c Lo Ld D room tr best tb ns base vs.length m news → ∀ h tk, Fr h₀ env.locals h m → News h₀ env.locals h news → Q .next { s with heap := h, toks := tk }) :
    ItemsRest prog w A E h₀ env (.Tuple elts k pos) body Q s ws keep (enumItems 0 vs) m news :=
  enum_pick (LInv P knd C on c Lo Ld D room tr best tb ns base) step fin pick (LInv.zero m2 m3 m1 m4 m5 m6 D1 D2 D3)
end
end Mine
end
section
open PySem PySem.W PySem.Spec PySem.Calls PyProof.Rows PyProof.V
namespace Mine
def ordF (dx x d1 d2 D a1 a2 a3 a4 a5 It : Addr) : Prop := @LT.lt Nat _ D dx ∧ @LT.lt Nat _ dx x ∧ @LT.lt Nat _ x d1 ∧ @LT.lt Nat _ d1 d2 ∧ @LT.lt Nat _ d2 a2 ∧ @LT.lt Nat _ a2 a3 ∧ @LT.lt Nat _ a3 a4 ∧ @LT.lt Nat _ a4 a5 ∧ @LT.lt Nat _ a5 a1 ∧ @LT.lt Nat _ a1 It
def ordL (dx x d1 d2 D a1 It : Addr) : Prop := @LT.lt Nat _ D dx ∧ @LT.lt Nat _ dx x ∧ @LT.lt Nat _ x d1 ∧ @LT.lt Nat _ d1 d2 ∧ @LT.lt Nat _ d2 a1 ∧ @LT.lt Nat _ a1 It
section
variable (prog : Program) (w : World) (A : Around) (E : Value → Shared → Prop) (h₀ : Heap) (env : Env) (target : PySem.Expr) (body : List Stmt) (Q : Flow → Shared → Prop) (P : Params) (knd : PySem.KeyKind prog w Int) (C : Addr) (on : Str)
/-- a turn of the law's loop over the caches, at a new cache -/
def TurnSpec : Prop := ∀ {c : Loc} {te : Tok} {o1 o2 oI p1 p2 p3 p4 p5 : Obj} {h : Heap} {tk : Nat} {m : Str → Option Value} {best : Nat} {room : Int} {tb tr : Tok} {It D a1 a2 a3 a4 a5 : Addr} {vs : List Value} {n : Nat} {ns Bh : List Int} {R : (Str → Option Value) → List (Addr × Obj) → Prop} {s : Shared},
  c.Ok → c.mx = room → 1 ≤ room → room ≤ 4 → IntsAre vs ns → ns.length ≤ 16 → BelTo room.toNat ns ns.length Bh best → ordF c.dx c.x c.d1 c.d2 D a1 a2 a3 a4 a5 It → oI.cls = .type "tuple_iterator" →
  Fr h₀ env.locals h m → m (Str.ofString "row") = some (.ref D) → m (Str.ofString "room") = some (.int room tr) → m (Str.ofString "best") = some (.int (best : Int) tb) →
  News h₀ env.locals h ((It, oI) :: (led P C on c 0 te o1 o2 ++ [(D, W.listOf vs.toArray n), (a1, p1), (a2, p2), (a3, p3), (a4, p4), (a5, p5)])) → o1.IsDictOf knd [] → o2.IsDictOf knd [] →
  (∀ m' n', m' (Str.ofString "row") = some (.ref D) → m' (Str.ofString "room") = some (.int room tr) → m' (Str.ofString "best") = some (.int (best : Int) tb) → SubL [(D, W.listOf vs.toArray n), (a1, p1), (a2, p2), (a3, p3), (a4, p4), (a5, p5)] n' → R m' n') →
  wpAny (model prog w) A (assign target env (.ref c.x)) (fun _ s₂ => wpAny (model prog w) A (execs body env) (UnrPostW h₀ env.locals { s with heap := h, toks := tk } [(It, oI)] R Q) E s₂) E { s with heap := h, toks := tk }
/-- a turn of the law's loop over the caches, at the last new cache -/
def TurnSpecL : Prop := ∀ {c : Loc} {te : Tok} {o1 o2 oI p1 : Obj} {h : Heap} {tk : Nat} {m : Str → Option Value} {best : Nat} {room : Int} {tb tr : Tok} {It D a1 : Addr} {vs : List Value} {n : Nat} {ns Bh : List Int} {R : (Str → Option Value) → List (Addr × Obj) → Prop} {s : Shared},
  c.Ok → c.mx = room → 1 ≤ room → room ≤ 4 → IntsAre vs ns → ns.length ≤ 16 → BelTo room.toNat ns ns.length Bh best → ordL c.dx c.x c.d1 c.d2 D a1 It → oI.cls = .type "tuple_iterator" →
  Fr h₀ env.locals h m → m (Str.ofString "row") = some (.ref D) → m (Str.ofString "room") = some (.int room tr) → m (Str.ofString "best") = some (.int (best : Int) tb) →
  News h₀ env.locals h ((It, oI) :: (led P C on c 0 te o1 o2 ++ [(D, W.listOf vs.toArray n), (a1, p1)])) → o1.IsDictOf knd [] → o2.IsDictOf knd [] →
  (∀ m' n', m' (Str.ofString "row") = some (.ref D) → m' (Str.ofString "room") = some (.int room tr) → m' (Str.ofString "best") = some (.int (best : Int) tb) → SubL [(D, W.listOf vs.toArray n), (a1, p1)] n' → R m' n') →
  wpAny (model prog w) A (assign target env (.ref c.x)) (fun _ s₂ => wpAny (model prog w) A (execs body env) (UnrPostW h₀ env.locals { s with heap := h, toks := tk } [(It, oI)] R Q) E s₂) E { s with heap := h, toks := tk }
/-- what follows the asks in a turn: the count of the loads and the check of the stretches -/
def FinSpec (rest : List Stmt) : Prop := ∀ {oI p1 p2 p3 p4 p5 : Obj} {h : Heap} {tk : Nat} {m : Str → Option Value} {best : Nat} {room : Int} {tb tr : Tok} {It D Lo a1 a2 a3 a4 a5 : Addr} {vs lsv : List Value} {n lsn : Nat} {ns ord : List Int} {lds : List Nat} {R : (Str → Option Value) → List (Addr × Obj) → Prop} {s : Shared},
  1 ≤ room → room ≤ 4 → IntsAre vs ns → ns.length ≤ 16 → best ≤ lds.length → lds.length ≤ ns.length → IntsAre lsv (lds.map fun j => ((j : Nat) : Int)) → Ldd room.toNat ns ns.length ord lds →
  (@LT.lt Nat _ D It ∧ @LT.lt Nat _ a1 It ∧ @LT.lt Nat _ a2 It ∧ @LT.lt Nat _ a3 It ∧ @LT.lt Nat _ a4 It ∧ @LT.lt Nat _ a5 It) → Fr h₀ env.locals h m →
  m (Str.ofString "loads") = some (.ref Lo) → m (Str.ofString "row") = some (.ref D) → m (Str.ofString "room") = some (.int room tr) → m (Str.ofString "best") = some (.int (best : Int) tb) →
  News h₀ env.locals h [(Lo, W.listOf lsv.toArray lsn), (It, oI), (D, W.listOf vs.toArray n), (a1, p1), (a2, p2), (a3, p3), (a4, p4), (a5, p5)] →
  (∀ m' n', m' (Str.ofString "row") = some (.ref D) → m' (Str.ofString "room") = some (.int room tr) → m' (Str.ofString "best") = some (.int (best : Int) tb) → SubL [(D, W.listOf vs.toArray n), (a1, p1), (a2, p2), (a3, p3), (a4, p4), (a5, p5)] n' → R m' n') →
  wpAny (model prog w) A (execs rest env) (UnrPostW h₀ env.locals s [(It, oI)] R Q) E { s with heap := h, toks := tk }
end
theorem with_turn {prog : Program} {w : World} {A : Around} {E : Value → Shared → Prop} {h₀ : Heap} {env : Env} {s1 s2 s3 ret b1 b2 b3 b4 : Stmt} {target iter : PySem.Expr} {pos : Pos} {s : Shared} {Q : Flow → Shared → Prop} {m : Str → Option Value} (_F : Fr h₀ env.locals s.heap m) (P : Params) (knd : PySem.KeyKind prog w Int) (on1 on2 : Str) (C1 C2 : Addr)
    (t0 : ∀ Q : Flow → Shared → Prop, FinSpec prog w A E h₀ env Q [b3, b4])
    (t1 : (∀ Q : Flow → Shared → Prop, FinSpec prog w A E h₀ env Q [b3, b4]) → ∀ Q : Flow → Shared → Prop, TurnSpec prog w A E h₀ env target [b1, b2, b3, b4] Q P knd C1 on1)
    (t2 : (∀ Q : Flow → Shared → Prop, FinSpec prog w A E h₀ env Q [b3, b4]) → ∀ Q : Flow → Shared → Prop, TurnSpecL prog w A E h₀ env target [b1, b2, b3, b4] Q P knd C2 on2)
    (k : (∀ Q : Flow → Shared → Prop, TurnSpec prog w A E h₀ env target [b1, b2, b3, b4] Q P knd C1 on1) → (∀ Q : Flow → Shared → Prop, TurnSpecL prog w A E h₀ env target [b1, b2, b3, b4] Q P knd C2 on2) → wpAny (model prog w) A (execs [s1, s2, s3, .For target iter [b1, b2, b3, b4] [] pos, ret] env) Q E s) :
    wpAny (model prog w) A (execs [s1, s2, s3, .For target iter [b1, b2, b3, b4] [] pos, ret] env) Q E s := k (t1 t0) (t2 t0)
end Mine
end
section
open PySem PySem.W PySem.Spec PySem.Calls PyProof.Rows PyProof.V
namespace Mine
/-- what the inner check of the law has seen of a stretch -/
structure Stretch (room : Nat) (ns : List Int) (lds : List Nat) (b j : Nat) (S Lq : List Int) : Prop where
  len : S.length ≤ room
  cov : ∀ t x, b ≤ t → t < b + j → ns[t]? = some x → x ∈ S
  laid : ∀ x ∈ Lq, ∃ p ∈ lds, b ≤ p ∧ p < b + j ∧ ns[p]? = some x
  ll : Lq.length ≤ j
theorem Stretch.zero {room : Nat} {ns : List Int} {lds : List Nat} {b : Nat} : Stretch room ns lds b 0 [] [] := ⟨Nat.zero_le _, fun t x h1 h2 => by omega, fun x h => (nomatch h), Nat.le_refl _⟩
section
variable {room : Nat} {ns ord : List Int} {lds : List Nat} {b j t : Nat} {S S' Lq : List Int} {x : Int}
theorem Stretch.cover (h : Stretch room ns lds b j S Lq) (hx : ns[b + j]? = some x) (hs : ∀ y ∈ S, y ∈ S') (hxS : x ∈ S') (hl : S'.length ≤ room) : Stretch room ns lds b (j + 1) S' Lq :=
  ⟨hl, fun t y h1 h2 hy => by
    by_cases ht : t = b + j
    · subst ht; cases hx.symm.trans hy; exact hxS
    · exact hs y (h.cov t y h1 (by omega) hy), fun y hy => let ⟨p, h1, h2, h3, h4⟩ := h.laid y hy; ⟨p, h1, h2, by omega, h4⟩, Nat.le_succ_of_le h.ll⟩
theorem Stretch.same (h : Stretch room ns lds b j S Lq) (hx : ns[b + j]? = some x) (hxS : (S.any fun y => y == x) = true) : Stretch room ns lds b (j + 1) S Lq :=
  h.cover hx (fun _ hy => hy) (is_any hxS) h.len
theorem Stretch.more (h : Stretch room ns lds b j S Lq) (hx : ns[b + j]? = some x) (hl : (S ++ [x]).length ≤ room) : Stretch room ns lds b (j + 1) (S ++ [x]) Lq :=
  h.cover hx (fun _ hy => List.mem_append_left _ hy) (by simp) hl
theorem Stretch.lay (h : Stretch room ns lds b (j + 1) S Lq) (hq : Lq.length ≤ j) (hx : ns[b + j]? = some x) (hd : b + j ∈ lds) : Stretch room ns lds b (j + 1) S (Lq ++ [x]) :=
  ⟨h.len, h.cov, fun y hy => by
    rcases List.mem_append.mp hy with hy | hy
    · exact h.laid y hy
    · rw [List.mem_singleton.mp hy]; exact ⟨b + j, hd, by omega, by omega, hx⟩, by rw [List.length_append, List.length_singleton]; omega⟩
theorem Stretch.no (h : Stretch room ns lds b j S Lq) (hl : Ldd room ns t ord lds) (hx : ns[b + j]? = some x) (hd : b + j ∈ lds) (hq : (Lq.any fun y => y == x) = true) : False := by
  obtain ⟨p, h1, h2, h3, h4⟩ := h.laid x (is_any hq)
  have := stretch_no (S := S) hl h1 hd h2 h3 h4 hx fun t y a b c => h.cov t y (by omega) b c
  have := h.len
  omega
theorem in_lds {p : Nat} (h : ((lds.map fun j => ((j : Nat) : Int)).any fun y => y == (p : Int)) = true) : p ∈ lds := by
  obtain ⟨q, hq, e⟩ := List.mem_map.mp (is_any h)
  have : q = p := by omega
  rw [← this]; exact hq
end
section
variable (Lo D : Addr) (L0 : Obj) (room : Int) (tr : Tok) (best : Int) (tb : Tok) (base : List (Addr × Obj))
/-- ahead of a turn of the law's loop over the begins -/
def OInv (_b : Nat) (m : Str → Option Value) (news : List (Addr × Obj)) : Prop :=
  m (Str.ofString "loads") = some (.ref Lo) ∧ m (Str.ofString "row") = some (.ref D) ∧ m (Str.ofString "room") = some (.int room tr) ∧ m (Str.ofString "best") = some (.int best tb) ∧ news = [(Lo, L0)] ++ base
variable (bt : Int) (bk : Tok) (ns : List Int) (lds : List Nat) (b : Nat) (St La : Addr)
/-- ahead of a turn of the law's loop over the ends -/
def EInv (j : Nat) (m : Str → Option Value) (news : List (Addr × Obj)) : Prop :=
  ∃ sv sn S lv ln Lq, IntsAre sv S ∧ IntsAre lv Lq ∧ Stretch room.toNat ns lds b j S Lq ∧
    m (Str.ofString "loads") = some (.ref Lo) ∧ m (Str.ofString "row") = some (.ref D) ∧ m (Str.ofString "room") = some (.int room tr) ∧ m (Str.ofString "best") = some (.int best tb) ∧ m (Str.ofString "stretch") = some (.ref St) ∧ m (Str.ofString "laid") = some (.ref La) ∧
    news = [(St, W.listOf sv.toArray sn), (La, W.listOf lv.toArray ln)] ++ base
end
section
variable {prog : Program} {w : World} {A : Around} {E : Value → Shared → Prop} {s : Shared} {env : Env} {h₀ : Heap} {x : Str} {px : Pos} {body : List Stmt} {Q : Flow → Shared → Prop} {ws : List (Addr × String)} {keep : List (Addr × Obj)}
  {Lo D St La : Addr} {L0 : Obj} {room best : Int} {tr tb : Tok} {base news all : List (Addr × Obj)} {m : Str → Option Value} {n b j sn ln : Nat} {a : Int} {ns S Lq : List Int} {lds : List Nat} {sv lv : List Value} {K : (Str → Option Value) → List (Addr × Obj) → Prop}
theorem OInv.go (hK : ∀ m' n' n₀, SubL n₀ n' → OInv Lo D L0 room tr best tb base (b + 1) m' n₀ → K m' n') (hs : SubL ([(Lo, L0)] ++ base) all)
    (m1 : m (Str.ofString "loads") = some (.ref Lo)) (m2 : m (Str.ofString "row") = some (.ref D)) (m3 : m (Str.ofString "room") = some (.int room tr)) (m4 : m (Str.ofString "best") = some (.int best tb)) : K m all := hK m all _ hs ⟨m1, m2, m3, m4, rfl⟩
theorem EInv.go (hK : ∀ m' n' n₀, SubL n₀ n' → EInv Lo D room tr best tb base ns lds b St La (j + 1) m' n₀ → K m' n') (hs : SubL ([(St, W.listOf sv.toArray sn), (La, W.listOf lv.toArray ln)] ++ base) all)
    (hS : IntsAre sv S) (hL : IntsAre lv Lq) (hE : Stretch room.toNat ns lds b (j + 1) S Lq)
    (m1 : m (Str.ofString "loads") = some (.ref Lo)) (m2 : m (Str.ofString "row") = some (.ref D)) (m3 : m (Str.ofString "room") = some (.int room tr)) (m4 : m (Str.ofString "best") = some (.int best tb)) (m5 : m (Str.ofString "stretch") = some (.ref St)) (m6 : m (Str.ofString "laid") = some (.ref La)) : K m all :=
  hK m all _ hs ⟨sv, sn, S, lv, ln, Lq, hS, hL, hE, m1, m2, m3, m4, m5, m6, rfl⟩
theorem outer_loop (m1 : m (Str.ofString "loads") = some (.ref Lo)) (m2 : m (Str.ofString "row") = some (.ref D)) (m3 : m (Str.ofString "room") = some (.int room tr)) (m4 : m (Str.ofString "best") = some (.int best tb)) (pick : Pick [(Lo, L0)] news base)
    (step : ∀ i m news (K : (Str → Option Value) → List (Addr × Obj) → Prop), i < n → OInv Lo D L0 room tr best tb base i m news → (∀ m' n' n₀, SubL n₀ n' → OInv Lo D L0 room tr best tb base (i + 1) m' n₀ → K m' n') →
      ∀ t h tk, Fr h₀ env.locals h m → AllObj ws (fun its => News h₀ env.locals h (its ++ news) →
        wpAny (model prog w) A (assign (.Name x px) env (.int (a + (i : Int)) t)) (fun _ s₂ => wpAny (model prog w) A (execs body env) (UnrPostW h₀ env.locals { s with heap := h, toks := tk } its (fun m' n' => SubL keep n' ∧ K m' n') Q) E s₂) E { s with heap := h, toks := tk }))
    (fin : ∀ m news, OInv Lo D L0 room tr best tb base n m news → ∀ h tk, Fr h₀ env.locals h m → News h₀ env.locals h news → Q .next { s with heap := h, toks := tk }) :
    ItemsRest prog w A E h₀ env (.Name x px) body Q s ws keep (rangeItems a n 0) m news :=
  range_inv (OInv Lo D L0 room tr best tb base) step fin pick ⟨m1, m2, m3, m4, rfl⟩
theorem inner_loop (ns : List Int) (lds : List Nat) (b : Nat) (m1 : m (Str.ofString "loads") = some (.ref Lo)) (m2 : m (Str.ofString "row") = some (.ref D)) (m3 : m (Str.ofString "room") = some (.int room tr)) (m4 : m (Str.ofString "best") = some (.int best tb)) (m5 : m (Str.ofString "stretch") = some (.ref St)) (m6 : m (Str.ofString "laid") = some (.ref La))
    (pick : Pick [(St, W.listOf ([] : List Value).toArray sn), (La, W.listOf ([] : List Value).toArray ln)] news base)
    (step : ∀ i m news (K : (Str → Option Value) → List (Addr × Obj) → Prop), i < n → EInv Lo D room tr best tb base ns lds b St La i m news → (∀ m' n' n₀, SubL n₀ n' → EInv Lo D room tr best tb base ns lds b St La (i + 1) m' n₀ → K m' n') →
      ∀ t h tk, Fr h₀ env.locals h m → AllObj ws (fun its => News h₀ env.locals h (its ++ news) →
        wpAny (model prog w) A (assign (.Name x px) env (.int (a + (i : Int)) t)) (fun _ s₂ => wpAny (model prog w) A (execs body env) (UnrPostW h₀ env.locals { s with heap := h, toks := tk } its (fun m' n' => SubL keep n' ∧ K m' n') Q) E s₂) E { s with heap := h, toks := tk }))
    (fin : ∀ m news, EInv Lo D room tr best tb base ns lds b St La n m news → ∀ h tk, Fr h₀ env.locals h m → News h₀ env.locals h news → Q .next { s with heap := h, toks := tk }) :
    ItemsRest prog w A E h₀ env (.Name x px) body Q s ws keep (rangeItems a n 0) m news :=
  range_inv (EInv Lo D room tr best tb base ns lds b St La) step fin pick ⟨[], sn, [], [], ln, [], .nil, .nil, .zero, m1, m2, m3, m4, m5, m6, rfl⟩
theorem item_nat {l : Addr} {vs : List Value} {p : Nat} {u : Tok} {Q : Value → Shared → Prop} (hl : s.heap.IsList l vs.toArray) (hi : IntsAre vs ns) (h1 : p < ns.length) (hz : ns.length ≤ 16) (h : ∀ t, Q (.int (ns.getD p 0) t) s) :
    wpAny (model prog w) A (getItem (.ref l) (.int (p : Int) u)) Q E s :=
  getItem_intsK hl hi (Int.natCast_nonneg _) (by omega) (by omega) fun t => by rw [Int.toNat_natCast]; exact h t
end
theorem turn_end {h₀ h : Heap} {L I : Addr} {o : Obj} {s₁ : Shared} {m : Str → Option Value} {tk : Nat} {all rest : List (Addr × Obj)} {R : (Str → Option Value) → List (Addr × Obj) → Prop}
    (F : Fr h₀ L h m) (N : News h₀ L h all) (hs : SubL ((I, o) :: rest) all) (off : OffA I rest) (hR : R m rest) : UnrEndW h₀ L s₁ [(I, o)] R { s₁ with heap := h, toks := tk } :=
  ⟨h, tk, m, rest, rfl, F, News.cut N hs, fun p hp q hq => by rw [List.mem_singleton.mp hq]; exact off.of p hp, hR⟩
section
variable {prog : Program} {w : World} {A : Around} {E : Value → Shared → Prop} {s : Shared} {env : Env} {h₀ : Heap} {target : PySem.Expr} {body : List Stmt} {Q : Flow → Shared → Prop}
  {P : Params} {knd : PySem.KeyKind prog w Int} {C C' : Addr} {on on' : Str} {x dx d1 d2 x' dx' d1' d2' D T I : Addr} {ta tb tc td tf ta' tb' tc' td' tf' te te' tr tbb : Tok} {o1 o2 o1' o2' tup : Obj} {room : Int} {m : Str → Option Value} {best : Nat} {vs : List Value} {n : Nat} {ns Bh : List Int}
theorem both_turns (t1 : ∀ Q : Flow → Shared → Prop, TurnSpec prog w A E h₀ env target body Q P knd C on) (t2 : ∀ Q : Flow → Shared → Prop, TurnSpecL prog w A E h₀ env target body Q P knd C' on')
    (m1 : m (Str.ofString "row") = some (.ref D)) (m2 : m (Str.ofString "room") = some (.int room tr)) (m3 : m (Str.ofString "best") = some (.int (best : Int) tbb))
    (r1 : 1 ≤ room) (r2 : room ≤ 4) (hI : IntsAre vs ns) (hz : ns.length ≤ 16) (hbel : BelTo room.toNat ns ns.length Bh best)
    (D1 : o1.IsDictOf knd []) (D2 : o2.IsDictOf knd []) (D1' : o1'.IsDictOf knd []) (D2' : o2'.IsDictOf knd [])
    (lo1 : (d1 == sysModules) = false) (lo2 : (d2 == sysModules) = false) (lo1' : (d1' == sysModules) = false) (lo2' : (d2' == sysModules) = false)
    (c : @LT.lt Nat _ D dx ∧ @LT.lt Nat _ dx x ∧ @LT.lt Nat _ x d1 ∧ @LT.lt Nat _ d1 d2 ∧ @LT.lt Nat _ d2 dx' ∧ @LT.lt Nat _ dx' x' ∧ @LT.lt Nat _ x' d1' ∧ @LT.lt Nat _ d1' d2' ∧ @LT.lt Nat _ d2' T ∧ @LT.lt Nat _ T I)
    (fin : ∀ h tk m, Fr h₀ env.locals h m → Q .next { s with heap := h, toks := tk }) :
    ItemsRest prog w A E h₀ env target body Q s [(I, "tuple_iterator")] [(T, tup)] ([Value.ref x, Value.ref x'].map Itm.val) m
      [(T, tup), (d2', o2'), (d1', o1'), (x', instObj C' dx'), (dx', dictOf [⟨PyData.keyHash P (Str.ofString "_Cache__data"), .str (Str.ofString "_Cache__data") ta', .ref d1'⟩, ⟨PyData.keyHash P (Str.ofString "_Cache__currsize"), .str (Str.ofString "_Cache__currsize") tb', .int 0 te'⟩, ⟨PyData.keyHash P (Str.ofString "_Cache__maxsize"), .str (Str.ofString "_Cache__maxsize") tc', .int room tf'⟩, ⟨PyData.keyHash P on', .str on' td', .ref d2'⟩] 4),
       (d2, o2), (d1, o1), (x, instObj C dx), (dx, dictOf [⟨PyData.keyHash P (Str.ofString "_Cache__data"), .str (Str.ofString "_Cache__data") ta, .ref d1⟩, ⟨PyData.keyHash P (Str.ofString "_Cache__currsize"), .str (Str.ofString "_Cache__currsize") tb, .int 0 te⟩, ⟨PyData.keyHash P (Str.ofString "_Cache__maxsize"), .str (Str.ofString "_Cache__maxsize") tc, .int room tf⟩, ⟨PyData.keyHash P on, .str on td, .ref d2⟩] 4), (D, W.listOf vs.toArray n)] := by
  obtain ⟨c0, c1, c2, c3, c4, c5, c6, c7, c8, c9⟩ := c
  refine ItemsRest.val fun h tk F => ?_
  intro oI hcI N
  have u1 := @t1 Q
  unfold TurnSpec at u1
  refine u1 (p2 := dictOf [⟨PyData.keyHash P (Str.ofString "_Cache__data"), .str (Str.ofString "_Cache__data") ta', .ref d1'⟩, ⟨PyData.keyHash P (Str.ofString "_Cache__currsize"), .str (Str.ofString "_Cache__currsize") tb', .int 0 te'⟩, ⟨PyData.keyHash P (Str.ofString "_Cache__maxsize"), .str (Str.ofString "_Cache__maxsize") tc', .int room tf'⟩, ⟨PyData.keyHash P on', .str on' td', .ref d2'⟩] 4) (p3 := instObj C' dx') (p4 := o1') (p5 := o2') (c := ⟨x, dx, d1, d2, ta, tb, tc, td, tf, room⟩) (te := te) (o1 := o1) (o2 := o2) (a1 := T) (p1 := tup) (a2 := dx') (a3 := x') (a4 := d1') (a5 := d2') (vs := vs) (n := n) ⟨c1, c2, c3, lo1, lo2⟩ rfl r1 r2 hI hz hbel ⟨c0, c1, c2, c3, c4, c5, c6, c7, c8, c9⟩ hcI F m1 m2 m3 (News.cut (L := env.locals) N ?_) D1 D2 ?_
  · dsimp only [led, List.cons_append, List.nil_append]
    k_subL
  intro m' n' q1 q2 q3 hs
  have hm := hs.mem
  refine ⟨⟨hm _ (by k_mem), trivial⟩, ItemsRest.val fun h tk F => ?_⟩
  intro oI2 hcI2 N2
  have u2 := @t2 Q
  unfold TurnSpecL at u2
  refine u2 (c := ⟨x', dx', d1', d2', ta', tb', tc', td', tf', room⟩) (te := te') (o1 := o1') (o2 := o2') (a1 := T) (p1 := tup) (vs := vs) (n := n) ⟨c5, c6, c7, lo1', lo2'⟩ rfl r1 r2 hI hz hbel ⟨Nat.lt_trans c0 (Nat.lt_trans c1 (Nat.lt_trans c2 (Nat.lt_trans c3 c4))), c5, c6, c7, c8, c9⟩ hcI2 F q1 q2 q3 ?_ D1' D2' ?_
  · intro p hp
    refine N2 p ?_
    rcases List.mem_cons.mp hp with rfl | hp
    · exact List.mem_cons_self
    · refine List.mem_append_right _ (hm p ?_)
      simp only [led, List.cons_append, List.nil_append, List.mem_cons, List.not_mem_nil, or_false] at hp ⊢
      rcases hp with h | h | h | h | h | h <;> simp [h]
  intro m'' n'' _ _ _ hs'
  exact ⟨⟨hs'.mem _ (by k_mem), trivial⟩, ItemsRest.zero fun h tk F _ => fin h tk _ F⟩
end
end Mine
end
section
open PySem PySem.W PyProof.Rows
namespace Mine
/-- a goal, and beside it three that are none of the goal's -/
theorem aside {G T U V : Prop} (hl : T) (hw : U) (hc : V) (main : G) : G := main
set_option Elab.async true in
set_option maxRecDepth 100000 in
set_option maxHeartbeats 0 in
/-- of no weight by itself: in passing it writes out the heap behind the text's top (pre.heap_1_1) and the view of the text (pre.view_1_2), which the contracts below speak of -/
theorem pre (_h : False) : PySem.Challenge.rw_bb0016_02.row.wellSaid = true → PySem.Challenge.rw_bb0016_02.row.Holds := by
  intro said
  apply aside
  contradiction
  contradiction
  contradiction
  k_head
end Mine
end
section
open PySem PySem.W PySem.Spec PySem.Calls PyProof.Rows
namespace Mine
def whole.tw7534278376952272096 : Nat := 0
def whole.tw10968819029398245488 : Nat := 0
def whole.tw9258520918328675761 : Nat := 0
def whole.tw6668795323429963259 : Nat := 0
def whole.tw12710866026190691104 : Nat := 0
def whole.tw13558446048028992656 : Nat := 0
def whole.tw13689605933128868921 : Nat := 0
def whole.tw4634220273326129683 : Nat := 0
def whole.tw15867893642666682752 : Nat := 0
def whole.tw14436481849131286541 : Nat := 0
def whole.tw7145253229135693128 : Nat := 0
def whole.tw7523409310568185292 : Nat := 0
def whole.tw7591398146686957285 : Nat := 0
def whole.tw6058213105272533483 : Nat := 0
def whole.tw297814097978971751 : Nat := 0
def whole.tw12950736950494245602 : Nat := 0
def whole.tw17351461997606004466 : Nat := 0
def whole.tw16107430218817232820 : Nat := 0
def whole.tw10998758594053969296 : Nat := 0
def whole.tw10831425667533977726 : Nat := 0
def whole.tw2567113771612989870 : Nat := 0
def whole.tw14203205997759089984 : Nat := 0
def whole.tw1353160692114854057 : Nat := 0
def whole.tw15160392744949094922 : Nat := 0
def whole.tw17585961739939965689 : Nat := 0
def whole.tw8528393544030916507 : Nat := 0
def whole.tw693362822554027901 : Nat := 0
def whole.tw15620923703106703344 : Nat := 0
def whole.tw17191848303566320965 : Nat := 0
def whole.tw5469478729317556974 : Nat := 0
def whole.tw16685628683962290460 : Nat := 0
def whole.tw13624664953045655768 : Nat := 0
def whole.tw272886880108286182 : Nat := 0
def whole.tw18416568823787054283 : Nat := 0
def whole.tw11919556621429754603 : Nat := 0
def whole.tw8420533352903818588 : Nat := 0
def whole.tw11401307502761735516 : Nat := 0
def whole.tw4882939151822159636 : Nat := 0
def whole.tw5015344845975228596 : Nat := 0
def whole.tw4385814770128095146 : Nat := 0
def whole.tw3674188364961289345 : Nat := 0
def whole.tw1934078417902220528 : Nat := 0
def whole.tw17701287138108054134 : Nat := 0
def whole.tw5990901263771015614 : Nat := 0
def whole.tw590388290315067818 : Nat := 0
local macro_rules | `(tactic| k_in) => `(tactic| first | k_in_fast | with_reducible assumption | (with_reducible (refine' Frag.In.keeps ?k1 (Fr.keep ?k2); (case k2 => assumption); (case k1 => assumption))))
local macro_rules | `(tactic| walk_at "ENTER") => `(tactic| ((refine' enter (by assumption) (by assumption) (by assumption) ?h1 ?h2 ?h3 ?h4 ?h5 ?_ ?h6 ?h7 ?h8 ?h9); (case h1 => k_is); (case h2 => k_is); (case h3 => k_room); (case h4 => first | exact BindsTo.of_eq rfl | exact binds_K (Frag.In.keeps (by assumption) (And.left (by assumption))) rfl (by k_is) rfl rfl rfl); (case h5 => exact locs rfl); (case h6 => exact rfl); (case h7 => exact rfl); (case h8 => exact rfl); (case h9 => decide); intro L' h' F' N'; (try dsimp only)))
local macro_rules | `(tactic| walk_at "getAttr ref") => `(tactic| (k_here; k_dflt (refine' get_sm ?k1 ?k2 ?k3 ?k4 ?k5 ?k6 ?k7 ?k8 ?k9 ?k10 ?k11 ?k12 ?_; (case k1 => k_asm); (case k2 => k_asm); (case k3 => k_inst); (case k4 => k_is); (case k5 => k_is); (case k6 => k_is); (case k7 => k_is); (case k8 => k_is); (case k9 => decide +kernel); (case k10 => k_get); (case k11 => k_is); (case k12 => k_handed); k_whole)))
local macro_rules | `(tactic| walk_at "DKSZ") => `(tactic| first | omega | (refine Nat.le_trans (without_len _ _) ?_; walk_at "DKSZ") | (refine Nat.le_trans (stored_len _ _ _) (Nat.succ_le_succ ?_); walk_at "DKSZ") | (simp only [List.length_cons, List.length_nil, List.length_append, List.length_map]; omega))
local macro_rules | `(tactic| walk_at "DKVAL") => `(tactic| first | assumption | exact valueAt_head _ _ _ | (simp [valueAt]; done))
local macro_rules | `(tactic| walk_at "subscriptTail") => `(tactic| (k_here; kda_here; (with_reducible show wpAny _ _ (subscriptTail _ _ (Value.ref _) (Value.int _ _)) _ _ _); k_dflt (refine' kda_item (knd := PySem.intKind _ _) ?N ?p ?d (intKind_is _ _ _ _) ?v ?_; (case N => k_asm); (case p => k_mem); (case d => k_asm); (case v => walk_at "DKVAL"); k_whole)))
local macro_rules | `(tactic| walk_at "getItem ref int") => `(tactic| (k_here; kda_here; k_dflt (refine' dk_get (knd := PySem.intKind _ _) ?N ?p ?d (intKind_is _ _ _ _) ?v ?_; (case N => k_asm); (case p => k_mem); (case d => k_asm); (case v => walk_at "DKVAL"); k_whole)))
local macro_rules | `(tactic| walk_at "delItem ref int") => `(tactic| (k_here; kda_here; k_dflt (refine' dk_del (knd := PySem.intKind _ _) ?F ?N ?U ?d (intKind_is _ _ _ _) ?v ?z ?_; (case F => k_asm); (case N => k_asm); (case U => k_updF); (case d => k_asm); (case v => first | assumption | exact isSome_of (by walk_at "DKVAL")); (case z => walk_at "DKSZ"); k_whole); intro h' o' F' N' hd'; (try dsimp only at N')))
local macro_rules | `(tactic| walk_at "call builtin:dict.pop") => `(tactic| (k_here; kda_here; k_dflt (refine' dk_pop (knd := PySem.intKind _ _) (more := []) (.inl rfl) (by rfl) (PySem.F.args_dict_pop_2 _ _) ?F ?N ?U ?d (intKind_is _ _ _ _) ?v ?z ?_; (case F => k_asm); (case N => k_asm); (case U => k_updF); (case d => k_asm); (case v => walk_at "DKVAL"); (case z => walk_at "DKSZ"); k_whole); intro h' o' F' N' hd'; (try dsimp only at N')))
local macro_rules | `(tactic| walk_at "getMethod ref") => `(tactic| (k_here; kda_here; (with_reducible show wpAny _ _ (getMethod (Value.ref _) (Str.ofString "pop") _) _ _ _); k_dflt (refine' dk_popMeth (knd := PySem.intKind _ _) ?N ?p ?d ?_; (case N => k_asm); (case p => k_mem); (case d => k_asm); k_whole)))
local macro_rules | `(tactic| walk_at "setItem ref int") => `(tactic| (k_here; kda_here; k_dflt (refine' kda_set (knd := PySem.intKind _ _) ?F ?N ?U ?d (intKind_is _ _ _ _) ?z ?_; (case F => k_asm); (case N => k_asm); (case U => k_updF); (case d => k_asm); (case z => rw [sizeLine_eq]; walk_at "DKSZ"); k_whole); intro h' o' F' N' hd'; (try dsimp only at N')))
local macro_rules | `(tactic| walk_at "compareOp In int ref") => `(tactic| (k_here; kda_here; k_dflt (first | (refine' kda_in (knd := PySem.intKind _ _) ?N ?p ?d ?l (intKind_is _ _ _ _) true ?b ?_; (case N => k_asm); (case p => k_mem); (case d => k_asm); (case l => k_asm); (case b => exact isSome_of (by assumption)); k_whole) | (refine' kda_in (knd := PySem.intKind _ _) ?N ?p ?d ?l (intKind_is _ _ _ _) false ?b ?_; (case N => k_asm); (case p => k_mem); (case d => k_asm); (case l => k_asm); (case b => exact isNone_of (by assumption)); k_whole) | (refine' kda_in (knd := PySem.intKind _ _) ?N ?p ?d ?l (intKind_is _ _ _ _) _ ?b ?_; (case N => k_asm); (case p => k_mem); (case d => k_asm); (case l => k_asm); (case b => exact rfl); k_whole))))
local macro_rules | `(tactic| walk_at "call builtin:len") => `(tactic| (k_here; kda_here; (with_reducible show wpAny _ _ (call (Value.builtin "len") [Value.ref _]) _ _ _); k_dflt (refine' kda_len (knd := PySem.intKind _ _) ?N ?p ?d ?l ?z ?_; (case N => k_asm); (case p => k_mem); (case d => k_asm); (case l => k_asm); (case z => walk_at "DKSZ"); k_whole)))
local macro_rules | `(tactic| walk_at "delItem ref") => `(tactic| (k_here; k_dflt (refine' del_own ?k1 ?k2 ?k3 ?k4 ?k5 ?k6 ?_; (case k1 => k_asm); (case k2 => k_asm); (case k3 => k_inst); (case k4 => k_is); (case k5 => k_is); (case k6 => k_is); k_whole)))
local macro_rules | `(tactic| walk_at "WhlIf") => `(tactic| first | (refine WhlIf.yes (decide_eq_true (by omega)) ?_) | (refine WhlIf.no (decide_eq_false (by omega)) ?_))
local macro_rules | `(tactic| walk_at "START") => `(tactic| ((try k_fold); k_steps))
local macro_rules | `(tactic| walk_at "CASH") => `(tactic| (refine ⟨_, _, _, Fit.sub (by assumption) (by assumption) (by dsimp only [led, List.cons_append, List.nil_append]; k_subL), by assumption, by assumption⟩))
local macro_rules | `(tactic| walk_at "call builtin:dict.pop") => `(tactic| (k_here; kda_here; k_dflt (refine' dk_popMiss (knd := PySem.intKind _ _) ?H (by rfl) (PySem.F.args_dict_pop_2 _ _) ?N ?p ?d ?l (intKind_is _ _ _ _) ?v ?_; (case H => rfl); (case N => k_asm); (case p => k_mem); (case d => k_asm); (case l => k_asm); (case v => assumption); k_whole); intro h' e' x'))
local macro_rules | `(tactic| walk_at "LEDSUB") => `(tactic| (dsimp only [led, List.cons_append, List.nil_append]; k_subL))
local macro_rules | `(tactic| walk_at "PRE") => `(tactic| first | assumption | (refine ⟨?_, ?_, ?_⟩ <;> first | assumption | walk_at "DKSZ") | (refine ⟨?_, ?_, ?_, ?_⟩ <;> first | assumption | walk_at "DKSZ") | (refine ⟨?_, ?_, ?_, ?_, ?_, ?_, ?_⟩ <;> first | assumption | walk_at "DKSZ"))
local macro_rules | `(tactic| walk_at "DEED") => `(tactic| ((refine' Deed.code (K := Int) (v := ?kv) (dv := ?kd) ?k0 ?k1 ?k2 ?k3 ?k4 ?k5 ?k6 ?k7 ?k8 ?k9 ?k10 ?k11 ?k12 ?k14 ?k15 ?k16 ?k13 ?k17 ?k18 ?_; (case k0 => assumption); (case k5 => k_asm); (case k1 => k_asm); (case k2 => assumption); (case k3 => assumption); (case k4 => assumption); (case k6 => k_asm); (case k7 => exact rfl); (case k8 => exact rfl); (case k9 => exact rfl); (case k10 => exact rfl); (case k11 => exact Nat.le_of_ble_eq_true rfl); (case k12 => exact Nat.le_of_ble_eq_true rfl); (case k13 => assumption); (case k14 => walk_at "LEDSUB"); (case k15 => assumption); (case k16 => assumption); (case k17 => exact rfl); (case k18 => walk_at "PRE"); (try (case kv => exact Value.none)); (try (case kd => exact Value.none)); k_whole); (intro h' h'' tk' te' p1 p2 u' B' X' T' sz' F' N' D1' D2'); (try dsimp only [led] at N')))
local macro_rules | `(tactic| walk_at "call ref") => `(tactic| (k_here; k_dflt (first | (refine wpAny_call ?_; walk_at "DEED") | (refine' call_meth ?k1 ?k2 ?_; (case k1 => k_asm); (case k2 => k_mem); k_whole; walk_at "DEED"))))
local macro_rules | `(tactic| walk_at "noteFrame ref") => `(tactic| ((with_reducible show wpAny _ _ (noteFrame _ _) (fun _ s₂ => wpAny _ _ (setFlight _ none) (fun _ s₃ => wpAny _ _ (handleBy _ _ (ExceptHandler.ExceptHandler (some (Expr.Name ("KeyError" : Str) _)) none _ _ :: _)) _ _ s₃) _ s₂) _ _); (refine caught_new (T' := "KeyError") (by assumption) (by assumption) (by assumption) (by assumption) (by assumption) (by assumption) (by k_is) PyProof.Rows.Boot.«KeyError» kr_isExc_KeyError kr_notTuple_KeyError (by rw [isSubtype_type]; kernel_rfl) ?_); (intro h' h'' u' B' F' N'); (have X' := Frag.In.keeps (by assumption) (Below.stays B')); (have T' := Top.keeps (by assumption) (Below.stays B'))))
local macro_rules | `(tactic| walk_at "exec For Tuple Call cons nil") => `(tactic| (k_here; (rename Fr _ _ _ _ => lF'); (with_unfolding_all refine' For_turns lF' ?_; k_whole)))
local macro_rules | `(tactic| walk_at "call type:enumerate") => `(tactic| (k_here; (with_reducible show wpAny _ _ (call (Value.type _) [Value.ref _]) (fun xv s₁ => wpAny _ _ (pyIter xv) (fun it s₂ => TurnsAt _ _ _ _ _ _ _ _ _ it s₂) _ s₁) _ _); (rename Fr _ _ _ _ => lF'); (with_unfolding_all refine ktu_enum (by rfl) lF' (by assumption) (by k_mem) (by rfl) (by rfl) rfl ?_); clear lF'; intro i' l1; (try k_lt l1)))
local macro_rules | `(tactic| walk_at "ENTERC") => `(tactic| ((fail_if_success fail_if_success (have : MarkB := by with_reducible assumption)); (((refine' enterC (by assumption) (by assumption) (by assumption) ?h1 ?h2 ?h3 ?h4 ?h5 ?h5b ?_ ?h6 ?h7 ?h8); (case h1 => k_is); (case h2 => k_is); (case h3 => k_room); (case h4 => first | exact BindsTo.of_eq rfl | exact binds_K (Frag.In.keeps (by assumption) (And.left (by assumption))) rfl (by k_is) rfl rfl rfl); (case h5 => exact rfl); (case h5b => decide +kernel); (case h6 => exact rfl); (case h7 => exact rfl); (case h8 => exact rfl); intro L' h' tk' cells' F' N' Y' l1; (try k_lt l1); k_cells Y'; (try simp only [List.cons_append, List.nil_append] at N'); (try dsimp only)))))
local macro_rules | `(tactic| walk_at "eval Name") => `(tactic| ((fail_if_success fail_if_success (have : MarkB := by with_reducible assumption)); ((k_here; k_dflt (refine' nameX_L ?k1 ?k2 ?_; (case k1 => k_asm); (case k2 => first | exact rfl | assumption); k_whole)))))
local macro_rules | `(tactic| walk_at "loadName") => `(tactic| ((fail_if_success fail_if_success (have : MarkB := by with_reducible assumption)); ((k_here; k_dflt (refine' wpAny_loadName_local ?a ?b (Fr.ns ?F) ?c ?_; (case F => k_asm); (case a => rfl); (case b => rfl); (case c => first | exact rfl | assumption); k_whole)))))
local macro_rules | `(tactic| walk_at "call builtin:len") => `(tactic| ((fail_if_success fail_if_success (have : MarkB := by with_reducible assumption)); ((k_here; (with_reducible show wpAny _ _ (call (Value.builtin "len") [Value.ref _]) _ _ _); k_dflt (refine' len_list (News.isList ?k1 ?k2) ?k3 ?_; (case k1 => k_asm); (case k2 => k_mem); (case k3 => (simp only [List.size_toArray]; omega)); k_whole); (try simp only [List.size_toArray])))))
local macro_rules | `(tactic| walk_at "eval ListComp") => `(tactic| ((fail_if_success fail_if_success (have : MarkB := by with_reducible assumption)); ((k_here; lcf_look; k_dflt (refine LCg.ListComp_U (F₀ := by k_asm) (by with_unfolding_all rfl) (by decide) (by rfl) (by decide) (by rfl) ?_)))))
local macro_rules | `(tactic| walk_at "exec Assign cons ListComp") => `(tactic| ((fail_if_success fail_if_success (have : MarkB := by with_reducible assumption)); ((k_here; lct_look; k_dflt (refine LCt.Assign_ListComp_T (F₀ := by k_asm) (by rfl) (by with_unfolding_all rfl) (by with_unfolding_all rfl) (by decide) (by rfl) (by decide) (by rfl) (by rfl) (by rfl) ?_)))))
local macro_rules | `(tactic| walk_at "CompSrc") => `(tactic| ((fail_if_success fail_if_success (have : MarkB := by with_reducible assumption)); ((k_here; k_dflt (refine LCg.CompSrc.ledger (by rfl) (by k_asm) (by k_asm) (by k_mem) (by rw [sizeLine_eq, List.size_toArray]; omega) ?_); intro g'))))
local macro_rules | `(tactic| walk_at "CompSrcT") => `(tactic| ((fail_if_success fail_if_success (have : MarkB := by with_reducible assumption)); ((k_here; k_dflt (refine LCt.CompSrcT.ledger (by rfl) (by k_asm) (by k_asm) (by k_mem) (by rw [sizeLine_eq, List.size_toArray]; omega) ?_); intro g'))))
local macro_rules | `(tactic| walk_at "call builtin:list.index") => `(tactic| ((fail_if_success fail_if_success (have : MarkB := by with_reducible assumption)); ((k_here; k_dflt (refine' index_ints ?N ?m ?i ?k ?z ?_; (case N => k_asm); (case m => k_mem); (case i => assumption); (case k => assumption); (case z => (simp only [List.length_drop]; omega)); k_whole)))))
local macro_rules | `(tactic| walk_at "subscriptTail Name Slice ref ref") => `(tactic| ((fail_if_success fail_if_success (have : MarkB := by with_reducible assumption)); ((k_here; k_dflt (refine' kmk_slice_ints ?F ?N ?l ?p ?q ?i ?m ?c ?_ ?s ?t ?z; (case F => k_asm); (case N => k_asm); (case l => exact News.isList (by k_asm) (by k_mem)); (case p => exact IsPart.int _ _); (case q => exact IsPart.none); (case i => assumption); (case m => exact kmk_from (by assumption) (Int.natCast_nonneg _)); (case c => exact List.length_drop ..); (case s => with_unfolding_all rfl); (case t => intro _; with_unfolding_all rfl); (case z => rw [sizeLine_eq, List.size_toArray]; omega)); intro D' ws' h' F' N' l1 hI' hC' hL'; (try simp only [Int.toNat_natCast] at hI' hC' hL'); (try k_lt l1)))))
local macro_rules | `(tactic| walk_at "TAIL") => `(tactic| ((fail_if_success fail_if_success (have : MarkB := by with_reducible assumption)); ((intro q hq; repeat (first | exact hq | refine List.mem_cons_of_mem _ ?_)))))
local macro_rules | `(tactic| k_all) => `(tactic| ((fail_if_success fail_if_success (have : MarkB := by with_reducible assumption)); (assumption)))
local macro_rules | `(tactic| walk_at "call builtin:max") => `(tactic| ((fail_if_success fail_if_success (have : MarkB := by with_reducible assumption)); ((k_here; k_dflt (refine' max_pairs ?hh ?hu (News.isList ?N ?m) ?hp ?hne ?_; (case hh => rfl); (case hu => exact Nat.le_of_ble_eq_true rfl); (case N => k_asm); (case m => k_mem); (case hp => exact TupsOf.prs (by assumption) (by assumption) (by walk_at "TAIL")); (case hne => (simp only [List.length_map]; omega)); k_whole); (intro h' tk' T' p' t' u' hk' hp' hmx' hT'); (have F' := Fr.keeps (by assumption) hk'); (have N' := News.grown (by assumption) hk')))))
local macro_rules | `(tactic| walk_at "subscriptTail") => `(tactic| ((fail_if_success fail_if_success (have : MarkB := by with_reducible assumption)); ((k_here; (with_reducible show wpAny _ _ (subscriptTail _ _ (Value.ref _) (Value.int 1 _)) _ _ _); k_dflt (refine item_tuple (j := 1) (x := Value.int _ _) (by assumption) (by decide) (by decide) (by rfl) (by rfl) ?_)))))
local macro_rules | `(tactic| walk_at "binaryOp Add ref ref") => `(tactic| ((fail_if_success fail_if_success (have : MarkB := by with_reducible assumption)); ((k_here; (with_reducible show wpAny _ _ (binaryOp _ (Value.ref _) (Value.ref _)) _ _ _); k_dflt (refine' kmk_add_ints ?F ?N ?a ?b ?i ?j ?_ ?z; (case F => k_asm); (case N => k_asm); (case a => exact News.isList (by k_asm) (by k_mem)); (case b => exact News.isList (by k_asm) (by k_mem)); (case i => l_ints); (case j => l_ints); (case z => (rw [sizeLine_eq]; simp only [List.length_cons, List.length_nil]; omega))); intro D' ws' h' F' N' l1 hI'; (try k_lt l1)))))
local macro_rules | `(tactic| walk_at "eval BoolOp") => `(tactic| ((fail_if_success fail_if_success (have : MarkL := by with_reducible assumption)); (((fail_if_success (have : Mark := by assumption)); refine Or.elim (?_ : _ ∨ False) id False.elim))))
local macro_rules | `(tactic| walk_at "PICK1") => `(tactic| first | exact Pick1.here | exact Pick1.there (by walk_at "PICK1"))
local macro_rules | `(tactic| walk_at "PICK") => `(tactic| first | exact Pick.nil | exact Pick.cons (by walk_at "PICK1") (by walk_at "PICK"))
local macro_rules | `(tactic| walk_at "OFFA") => `(tactic| first | exact True.intro | (refine And.intro (by k_ne) ?_; walk_at "OFFA"))
local macro_rules | `(tactic| walk_at "OFFP") => `(tactic| first | exact True.intro | (refine And.intro (by walk_at "OFFA") ?_; walk_at "OFFP"))
local macro_rules | `(tactic| walk_at "call ref") => `(tactic| ((fail_if_success fail_if_success (have : MarkL := by with_reducible assumption)); ((k_here; k_dflt (refine' BestSpec.call ?k0 ?k1 ?k2 ?k3 ?k4 ?k5 ?k6 ?k7 ?k8 ?k9 ?k10 ?k11 ?k12 ?k13 ?k14 ?k15 ?k16 ?k17 ?_; (case k0 => assumption); (case k2 => k_asm); (case k1 => assumption); (case k3 => assumption); (case k4 => k_asm); (case k5 => assumption); (case k6 => exact rfl); (case k7 => exact rfl); (case k8 => exact rfl); (case k9 => exact rfl); (case k10 => exact Nat.le_of_ble_eq_true rfl); (case k11 => exact Nat.le_of_ble_eq_true rfl); (case k12 => walk_at "PICK"); (case k13 => walk_at "OFFP"); (case k14 => assumption); (case k15 => assumption); (case k16 => omega); (case k17 => omega); k_whole); (intro h' tk' best' Bh' t' F' N' hbel')))))
local macro_rules | `(tactic| walk_at "eval Name") => `(tactic| ((fail_if_success fail_if_success (have : MarkL := by with_reducible assumption)); ((k_here; k_dflt (refine' ld ?k1 ?k2 ?_; (case k1 => k_asm); (case k2 => first | exact rfl | assumption); k_whole)))))
local macro_rules | `(tactic| walk_at "LITS") => `(tactic| first | exact IntsAre.nil | (refine IntsAre.cons _ _ ?_; walk_at "LITS"))
local macro_rules | `(tactic| walk_at "DKVAL") => `(tactic| ((fail_if_success fail_if_success (have : MarkL := by with_reducible assumption)); (exact valueAt_stored _ _ _)))
local macro_rules | `(tactic| walk_at "LPICK") => `(tactic| (dsimp only [led, List.cons_append, List.nil_append]; walk_at "PICK"))
local macro_rules | `(tactic| walk_at "call ref") => `(tactic| ((fail_if_success fail_if_success (have : MarkL := by with_reducible assumption)); (((with_reducible show wpAny _ _ (call (Value.ref 794) [_, _, _]) _ _ _); refine Or.elim (?_ : _ ∨ False) id False.elim))))
local macro_rules | `(tactic| walk_at "DLAW") => `(tactic| ((refine' Deed.law (K := Int) (v := ?kv) (dv := ?kd) ?k0 ?k1 ?k2 ?k3 ?k4 ?k5 ?k6 ?k7 ?k8 ?k9 ?k10 ?k11 ?k12 ?k13 ?k14 ?k15 ?k16 ?k17 ?_; (case k0 => assumption); (case k1 => k_asm); (case k2 => k_asm); (case k3 => k_asm); (case k4 => k_asm); (case k5 => exact rfl); (case k6 => exact rfl); (case k7 => exact rfl); (case k8 => exact rfl); (case k9 => exact Nat.le_of_ble_eq_true rfl); (case k10 => exact Nat.le_of_ble_eq_true rfl); (case k15 => assumption); (case k11 => walk_at "LPICK"); (case k12 => (dsimp only [led]; walk_at "OFFP")); (case k13 => assumption); (case k14 => assumption); (case k16 => exact rfl); (case k17 => assumption); (try (case kv => exact Value.none)); (try (case kd => exact Value.none)); k_whole); (intro h' tk' te' p1 p2 F' N' D1' D2'); (try dsimp only [led, List.cons_append, List.nil_append] at N' D1' D2')))
local macro_rules | `(tactic| walk_at "compareOp NotIn int ref") => `(tactic| ((fail_if_success fail_if_success (have : MarkL := by with_reducible assumption)); ((k_here; (with_reducible show wpAny _ _ (compareOp CmpOp.NotIn _ (Value.ref _)) _ _ _); k_dflt (refine' notIn_K ?k1 ?k2 ?k3 ?k4 ?k5 ?_; (case k1 => k_asm); (case k2 => k_asm); (case k3 => k_inst); (case k4 => k_is); (case k5 => k_is); k_whole)))))
local macro_rules | `(tactic| walk_at "exec For Name Call cons nil") => `(tactic| ((fail_if_success fail_if_success (have : MarkL := by with_reducible assumption)); ((k_here; (rename Fr _ _ _ _ => lF'); (with_unfolding_all refine' For_turns lF' ?_; k_whole)))))
local macro_rules | `(tactic| walk_at "call type:range") => `(tactic| ((fail_if_success fail_if_success (have : MarkL := by with_reducible assumption)); ((k_here; (with_reducible show wpAny _ _ (call (Value.type _) [Value.int _ _]) _ _ _); (rename Fr _ _ _ _ => lF'); (rename News _ _ _ _ => lN'); (refine' range1_rows lF' lN' ?_); clear lF' lN'; intro h' tk' t1 u1 v1 R' F' N' st'; clear st'))))
local macro_rules | `(tactic| walk_at "call type:range") => `(tactic| ((fail_if_success fail_if_success (have : MarkL := by with_reducible assumption)); ((k_here; (with_reducible show wpAny _ _ (call (Value.type _) [Value.int _ _, Value.int _ _]) _ _ _); (rename Fr _ _ _ _ => lF'); (rename News _ _ _ _ => lN'); (refine' range2_rows lF' lN' ?_); clear lF' lN'; intro h' tk' t1 u1 v1 R' F' N' st'; clear st'))))
local macro_rules | `(tactic| walk_at "pyIter ref") => `(tactic| ((fail_if_success fail_if_success (have : MarkL := by with_reducible assumption)); ((k_here; (with_reducible show wpAny _ _ (pyIter (Value.ref _)) (fun it s₂ => TurnsAt _ _ _ _ _ _ _ _ _ it s₂) _ _); (rename IsRange _ _ _ _ _ _ _ _ => rgX); (rename Fr _ _ _ _ => lF'); (rename News _ _ _ _ => lN'); (with_unfolding_all refine iter_rangeTurns (by rfl) lF' lN' rgX (small_one (by omega) (by omega) (by omega) (by omega)) (rangeSize_nat _ _) ?_); clear rgX lF' lN'; intro i' l1; (try k_lt l1)))))
local macro_rules | `(tactic| walk_at "getItem ref int") => `(tactic| ((fail_if_success fail_if_success (have : MarkL := by with_reducible assumption)); ((k_here; (with_reducible show wpAny _ _ (getItem (Value.ref _) (Value.int (((_ : Nat) : Int)) _)) _ _ _); k_dflt (refine' item_nat (News.isList ?N ?m) ?i ?p ?z ?_; (case N => k_asm); (case m => k_mem); (case i => assumption); (case p => omega); (case z => assumption); k_whole); intro tI))))
local macro_rules | `(tactic| walk_at "compareOp In int ref") => `(tactic| ((fail_if_success fail_if_success (have : MarkL := by with_reducible assumption)); ((k_here; (with_reducible show wpAny _ _ (compareOp CmpOp.In (Value.int _ _) (Value.ref _)) _ _ _); k_dflt (refine' in_list_ints (News.isList ?N ?m) ?i ?_; (case N => k_asm); (case m => k_mem); (case i => assumption); k_whole)))))
local macro_rules | `(tactic| walk_at "compareOp NotIn int ref") => `(tactic| ((fail_if_success fail_if_success (have : MarkL := by with_reducible assumption)); ((k_here; (with_reducible show wpAny _ _ (compareOp CmpOp.NotIn (Value.int _ _) (Value.ref _)) _ _ _); k_dflt (refine' notin_list_ints (News.isList ?N ?m) ?i ?_; (case N => k_asm); (case m => k_mem); (case i => assumption); k_whole)))))
local macro_rules | `(tactic| walk_at "newTuple") => `(tactic| ((fail_if_success fail_if_success (have : MarkL := by with_reducible assumption)); ((k_here; (with_reducible show wpAny _ _ (newTuple _) _ _ _); k_dflt (refine' kup_newTuple ?F ?N ?_ ?z; (case F => k_asm); (case N => k_asm); (case z => kmk_size)); intro D' h' F' N' l1; (try k_lt l1); (try k_sweep)))))
local macro_rules | `(tactic| walk_at "ItemsRest") => `(tactic| ((fail_if_success fail_if_success (have : MarkL := by with_reducible assumption)); (((with_reducible show ItemsRest _ _ _ _ _ _ _ _ _ _ [(_, "tuple_iterator")] _ _ _ _); refine Or.elim (?_ : _ ∨ False) id False.elim))))
local macro_rules | `(tactic| walk_at "ite") => `(tactic| (k_closed; with_reducible first | refine PySem.W.ite_pos (by decide) ?_ | refine PySem.W.ite_neg (by decide) ?_))
local macro_rules | `(tactic| walk_at "exec While") => `(tactic| (k_here; k_dflt (refine whl_start 100 ?_)))
local macro_rules | `(tactic| walk_at "subscriptTail Attribute") => `(tactic| (k_here; kda_here; (with_reducible show wpAny _ _ (subscriptTail _ _ (Value.ref _) (Value.int _ _)) _ _ _); k_dflt (refine kdt_tail (knd := PySem.intKind _ _) (by k_asm) (by k_mem) (by k_asm) ?_)))
local macro_rules | `(tactic| walk_at "eval Call") => `(tactic| (k_here; (with_reducible show wpAny _ _ (eval (Expr.Call _ _ [] _) _) _ _ _); k_dflt (refine Call_ ?_)))
local macro_rules | `(tactic| walk_at "eval Call Attribute") => `(tactic| (k_here; (with_reducible show wpAny _ _ (eval (Expr.Call _ _ [] _) _) _ _ _); k_dflt (refine MethodCall_ ?_)))
local macro_rules | `(tactic| walk_at "exec Assign") => `(tactic| (k_here; (with_reducible show wpAny _ _ (exec (Stmt.Assign [Expr.Name _ _] _ _) _) _ _ _); k_dflt (refine wpAny_Assign_Name ?_)))
local macro_rules | `(tactic| walk_at "callWith builtin") => `(tactic| (k_here; k_dflt (first | with_reducible refine callWith_method0 ?_ | refine callWith_builtin1 ?_ | refine callWith_method1 ?_)))
local macro_rules | `(tactic| walk_at "getAttr ref") => `(tactic| (k_here; k_dflt (refine' get_own ?k1 ?k2 ?k3 ?k4 ?k5 ?k6 ?k7 ?k8 ?k9 ?_; (case k1 => k_asm); (case k2 => k_asm); (case k3 => k_inst); (case k4 => k_is); (case k5 => k_is); (case k6 => k_is); (case k7 => k_is); (case k8 => k_get); (case k9 => k_handed); k_whole)))
local macro_rules | `(tactic| walk_at "compareOp IsNot ref ref") => `(tactic| with_reducible refine wpAny_isNot_ref_self ?_)
local macro_rules | `(tactic| walk_at "UnrEndW") => `(tactic| k_dflt ktu_end)
set_option maxRecDepth 100000 in
set_option maxHeartbeats 0 in
theorem touchL : Box (Touch (prog := PySem.Challenge.rw_bb0016_02.row.prog) (K := Int) Mine.pre.heap_1_1 Mine.pre.view_1_2 (fun w => PySem.intKind PySem.Challenge.rw_bb0016_02.row.prog w) Value.int 947 (Str.ofString "_LRUCache__order") 944) := by
  refine ⟨?_⟩
  k_fill
  unfold Touch
  intro w s c cur kvs ov k v dv tk base g fr gs mean mg mb lse R S O Q Pr hR
  obtain ⟨x, dx, d1, d2, ta, tb, tc, td, tf, mx⟩ := c
  have O' := O
  obtain ⟨l1, l2, l3, lo1, lo2⟩ := O
  obtain ⟨B, sz, Xb, Tb⟩ := S
  have X := Frag.In.keeps Xb B.stays
  have T := Tb.keeps B.stays
  obtain ⟨te, o1, o2, ft, D1, D2⟩ := Q
  obtain ⟨hvo, z1, z2⟩ := Pr
  dsimp only [led, List.nil_append] at l1 l2 l3 lo1 lo2 ft hR hvo z1 z2 ⊢
  walk_at "ENTER"
  walk_at "START"
  all_goals (first | ((try dsimp only); (try k_unfold); (try dsimp only); exact hR _ _ _ (by first | assumption | exact Up.refl (by assumption)) (by walk_at "CASH")) | skip)
set_option maxRecDepth 100000 in
set_option maxHeartbeats 0 in
theorem hitF : Box (SdHit (prog := PySem.Challenge.rw_bb0016_02.row.prog) (K := Int) Mine.pre.heap_1_1 Mine.pre.view_1_2 (fun w => PySem.intKind PySem.Challenge.rw_bb0016_02.row.prog w) Value.int 882 (Str.ofString "_FIFOCache__order") 794 false) := by
  refine ⟨?_⟩
  k_fill
  unfold SdHit
  intro w s c cur kvs ov k v dv tk base g fr gs mean mg mb lse R S O Q Pr hR
  obtain ⟨x, dx, d1, d2, ta, tb, tc, td, tf, mx⟩ := c
  have O' := O
  obtain ⟨l1, l2, l3, lo1, lo2⟩ := O
  obtain ⟨B, sz, Xb, Tb⟩ := S
  have X := Frag.In.keeps Xb B.stays
  have T := Tb.keeps B.stays
  obtain ⟨te, o1, o2, ft, D1, D2⟩ := Q
  obtain ⟨hv, hvo, z1, z2⟩ := Pr
  dsimp only [led, List.nil_append] at l1 l2 l3 lo1 lo2 ft hR hv hvo z1 z2 ⊢
  walk_at "ENTER"
  walk_at "START"
  all_goals (first | ((try dsimp only); (try k_unfold); (try dsimp only); exact hR _ _ _ (by first | assumption | exact Up.refl (by assumption)) (by walk_at "CASH")) | skip)
set_option maxRecDepth 100000 in
set_option maxHeartbeats 0 in
theorem hitL : Box (SdHit (prog := PySem.Challenge.rw_bb0016_02.row.prog) (K := Int) Mine.pre.heap_1_1 Mine.pre.view_1_2 (fun w => PySem.intKind PySem.Challenge.rw_bb0016_02.row.prog w) Value.int 947 (Str.ofString "_LRUCache__order") 794 true) := by
  refine ⟨?_⟩
  k_fill
  unfold SdHit
  intro w s c cur kvs ov k v dv tk base g fr gs mean mg mb lse R S O Q Pr hR
  obtain ⟨x, dx, d1, d2, ta, tb, tc, td, tf, mx⟩ := c
  have O' := O
  obtain ⟨l1, l2, l3, lo1, lo2⟩ := O
  obtain ⟨B, sz, Xb, Tb⟩ := S
  have X := Frag.In.keeps Xb B.stays
  have T := Tb.keeps B.stays
  obtain ⟨te, o1, o2, ft, D1, D2⟩ := Q
  obtain ⟨hv, hvo, z1, z2⟩ := Pr
  dsimp only [led, List.nil_append] at l1 l2 l3 lo1 lo2 ft hR hv hvo z1 z2 ⊢
  walk_at "ENTER"
  walk_at "START"
  all_goals (first | ((try dsimp only); (try k_unfold); (try dsimp only); exact hR _ _ _ (by first | assumption | exact Up.refl (by assumption)) (by walk_at "CASH")) | skip)
set_option maxRecDepth 100000 in
set_option maxHeartbeats 0 in
theorem newF : Box (SdNew (prog := PySem.Challenge.rw_bb0016_02.row.prog) (K := Int) Mine.pre.heap_1_1 Mine.pre.view_1_2 (fun w => PySem.intKind PySem.Challenge.rw_bb0016_02.row.prog w) Value.int 882 (Str.ofString "_FIFOCache__order") 794) := by
  refine ⟨?_⟩
  k_fill
  unfold SdNew
  intro w s c cur kvs ov k v dv tk base g fr gs mean mg mb lse R S O Q Pr hR
  obtain ⟨x, dx, d1, d2, ta, tb, tc, td, tf, mx⟩ := c
  have O' := O
  obtain ⟨l1, l2, l3, lo1, lo2⟩ := O
  obtain ⟨B, sz, Xb, Tb⟩ := S
  have X := Frag.In.keeps Xb B.stays
  have T := Tb.keeps B.stays
  obtain ⟨te, o1, o2, ft, D1, D2⟩ := Q
  obtain ⟨hv, hvo, hc, m1, m2, z1, z2⟩ := Pr
  dsimp only [led, List.nil_append] at l1 l2 l3 lo1 lo2 ft hR hv hvo hc m1 m2 z1 z2 ⊢
  walk_at "ENTER"
  walk_at "START"
  all_goals (first | ((try dsimp only); (try k_unfold); (try dsimp only); exact hR _ _ _ (by first | assumption | exact Up.refl (by assumption)) (by walk_at "CASH")) | skip)
set_option maxRecDepth 100000 in
set_option maxHeartbeats 0 in
theorem fullF : Box (SdFull (prog := PySem.Challenge.rw_bb0016_02.row.prog) (K := Int) Mine.pre.heap_1_1 Mine.pre.view_1_2 (fun w => PySem.intKind PySem.Challenge.rw_bb0016_02.row.prog w) Value.int 882 (Str.ofString "_FIFOCache__order") 794) := by
  refine ⟨?_⟩
  k_fill
  unfold SdFull
  intro w s c cur kvs ov k v dv tk base g fr gs mean mg mb lse R S O Q Pr hR
  obtain ⟨x, dx, d1, d2, ta, tb, tc, td, tf, mx⟩ := c
  have O' := O
  obtain ⟨l1, l2, l3, lo1, lo2⟩ := O
  obtain ⟨B, sz, Xb, Tb⟩ := S
  have X := Frag.In.keeps Xb B.stays
  have T := Tb.keeps B.stays
  obtain ⟨te, o1, o2, ft, D1, D2⟩ := Q
  have Pr2 := Pr
  obtain ⟨k0, v0, rest, rfl, rfl, hv0, hv, hvo1, hvo2, m1, m2, z1, z2⟩ := Pr
  dsimp only [led, first, List.nil_append] at l1 l2 l3 lo1 lo2 ft hR hv0 hv hvo1 hvo2 m1 m2 z1 z2 ⊢
  walk_at "ENTER"
  walk_at "START"
  all_goals (first | ((try dsimp only); (try k_unfold); (try dsimp only); exact hR _ _ _ (by first | assumption | exact Up.refl (by assumption)) (by walk_at "CASH")) | skip)
set_option maxRecDepth 100000 in
set_option maxHeartbeats 0 in
theorem stNewL : Box (StNew (prog := PySem.Challenge.rw_bb0016_02.row.prog) (K := Int) Mine.pre.heap_1_1 Mine.pre.view_1_2 (fun w => PySem.intKind PySem.Challenge.rw_bb0016_02.row.prog w) Value.int 947 (Str.ofString "_LRUCache__order") 915) := by
  refine ⟨?_⟩
  k_fill
  unfold StNew
  intro w s c cur kvs ov k v dv tk base g fr gs mean mg mb lse R S O Q Pr hR
  obtain ⟨x, dx, d1, d2, ta, tb, tc, td, tf, mx⟩ := c
  have O' := O
  obtain ⟨l1, l2, l3, lo1, lo2⟩ := O
  obtain ⟨B, sz, Xb, Tb⟩ := S
  have X := Frag.In.keeps Xb B.stays
  have T := Tb.keeps B.stays
  obtain ⟨te, o1, o2, ft, D1, D2⟩ := Q
  obtain ⟨hv, hvo, hc, m1, m2, z1, z2⟩ := Pr
  dsimp only [led, List.nil_append] at l1 l2 l3 lo1 lo2 ft hR hv hvo hc m1 m2 z1 z2 ⊢
  have touchL' := @Box.out _ touchL
  unfold Touch at touchL'
  walk_at "ENTER"
  walk_at "START"
  all_goals (first | ((try dsimp only); (try k_unfold); (try dsimp only); exact hR _ _ _ (by first | assumption | exact Up.refl (by assumption)) (by walk_at "CASH")) | skip)
set_option maxRecDepth 100000 in
set_option maxHeartbeats 0 in
theorem newL : Box (SdNew (prog := PySem.Challenge.rw_bb0016_02.row.prog) (K := Int) Mine.pre.heap_1_1 Mine.pre.view_1_2 (fun w => PySem.intKind PySem.Challenge.rw_bb0016_02.row.prog w) Value.int 947 (Str.ofString "_LRUCache__order") 794) := by
  refine ⟨?_⟩
  k_fill
  unfold SdNew
  intro w s c cur kvs ov k v dv tk base g fr gs mean mg mb lse R S O Q Pr hR
  obtain ⟨x, dx, d1, d2, ta, tb, tc, td, tf, mx⟩ := c
  have O' := O
  obtain ⟨l1, l2, l3, lo1, lo2⟩ := O
  obtain ⟨B, sz, Xb, Tb⟩ := S
  have X := Frag.In.keeps Xb B.stays
  have T := Tb.keeps B.stays
  obtain ⟨te, o1, o2, ft, D1, D2⟩ := Q
  obtain ⟨hv, hvo, hc, m1, m2, z1, z2⟩ := Pr
  dsimp only [led, List.nil_append] at l1 l2 l3 lo1 lo2 ft hR hv hvo hc m1 m2 z1 z2 ⊢
  have stNewL' := @Box.out _ stNewL
  unfold StNew at stNewL'
  walk_at "ENTER"
  walk_at "START"
  all_goals (first | ((try dsimp only); (try k_unfold); (try dsimp only); exact hR _ _ _ (by first | assumption | exact Up.refl (by assumption)) (by walk_at "CASH")) | skip)
set_option maxRecDepth 100000 in
set_option maxHeartbeats 0 in
theorem stFullL : Box (StFull (prog := PySem.Challenge.rw_bb0016_02.row.prog) (K := Int) Mine.pre.heap_1_1 Mine.pre.view_1_2 (fun w => PySem.intKind PySem.Challenge.rw_bb0016_02.row.prog w) Value.int 947 (Str.ofString "_LRUCache__order") 915) := by
  refine ⟨?_⟩
  k_fill
  unfold StFull
  intro w s c cur kvs ov k v dv tk base g fr gs mean mg mb lse R S O Q Pr hR
  obtain ⟨x, dx, d1, d2, ta, tb, tc, td, tf, mx⟩ := c
  have O' := O
  obtain ⟨l1, l2, l3, lo1, lo2⟩ := O
  obtain ⟨B, sz, Xb, Tb⟩ := S
  have X := Frag.In.keeps Xb B.stays
  have T := Tb.keeps B.stays
  obtain ⟨te, o1, o2, ft, D1, D2⟩ := Q
  have Pr2 := Pr
  obtain ⟨k0, v0, rest, rfl, rfl, hv0, hv, hvo1, hvo2, m1, m2, z1, z2⟩ := Pr
  dsimp only [led, first, List.nil_append] at l1 l2 l3 lo1 lo2 ft hR hv0 hv hvo1 hvo2 m1 m2 z1 z2 ⊢
  have touchL' := @Box.out _ touchL
  unfold Touch at touchL'
  walk_at "ENTER"
  walk_at "START"
  all_goals (first | ((try dsimp only); (try k_unfold); (try dsimp only); exact hR _ _ _ (by first | assumption | exact Up.refl (by assumption)) (by walk_at "CASH")) | skip)
set_option maxRecDepth 100000 in
set_option maxHeartbeats 0 in
theorem fullL : Box (SdFull (prog := PySem.Challenge.rw_bb0016_02.row.prog) (K := Int) Mine.pre.heap_1_1 Mine.pre.view_1_2 (fun w => PySem.intKind PySem.Challenge.rw_bb0016_02.row.prog w) Value.int 947 (Str.ofString "_LRUCache__order") 794) := by
  refine ⟨?_⟩
  k_fill
  unfold SdFull
  intro w s c cur kvs ov k v dv tk base g fr gs mean mg mb lse R S O Q Pr hR
  obtain ⟨x, dx, d1, d2, ta, tb, tc, td, tf, mx⟩ := c
  have O' := O
  obtain ⟨l1, l2, l3, lo1, lo2⟩ := O
  obtain ⟨B, sz, Xb, Tb⟩ := S
  have X := Frag.In.keeps Xb B.stays
  have T := Tb.keeps B.stays
  obtain ⟨te, o1, o2, ft, D1, D2⟩ := Q
  have Pr2 := Pr
  obtain ⟨k0, v0, rest, rfl, rfl, hv0, hv, hvo1, hvo2, m1, m2, z1, z2⟩ := Pr
  dsimp only [led, first, List.nil_append] at l1 l2 l3 lo1 lo2 ft hR hv0 hv hvo1 hvo2 m1 m2 z1 z2 ⊢
  have stFullL' := @Box.out _ stFullL
  unfold StFull at stFullL'
  walk_at "ENTER"
  walk_at "START"
  all_goals (first | ((try dsimp only); (try k_unfold); (try dsimp only); exact hR _ _ _ (by first | assumption | exact Up.refl (by assumption)) (by walk_at "CASH")) | skip)
set_option maxRecDepth 100000 in
set_option maxHeartbeats 0 in
theorem best2 : Box (BestSpec (prog := PySem.Challenge.rw_bb0016_02.row.prog) Mine.pre.heap_1_1 Mine.pre.view_1_2 954) := by
  refine ⟨?_⟩
  have mB := MarkB.mk
  k_fill
  unfold BestSpec
  intro w s l vs n ns room t base g fr gs mean mg mb lse R B X T ft hI hn m1 m2 hR
  have hvl := hI.length
  walk_at "ENTERC"
  walk_at "START"
  rename_i L _ _ l1 oF oP oR d1 d2 d3 H _ l2 _ _ l3 _ _ _ N I l4
  refine enum_inv (BInv L l (W.listOf vs.toArray n) room t ns) ?step ?fin [(L + 1 + 1 + 1, oF), (L + 1 + 1, oP), (L + 1, oR), (l, W.listOf vs.toArray n), (H, W.listOf #[] 0)] (by k_subL) ?zero
  case zero => exact ⟨oF, oP, oR, H, ([] : List Value), 0, [], 0, _, none, none, d1, d2, d3, by constructor, .zero, rfl, rfl, rfl, l2, rfl⟩
  case fin =>
    rintro m news ⟨oF, oP, oR, H, hs, hsn, Bh, c, tc, vF, vP, d1, d2, d3, hB, hBel, hm1, hm2, hm3, l2, rfl⟩ h tk F N
    dsimp only
    k_steps
    refine hR _ _ c Bh _ (Fit.sub (by assumption) (by assumption) (by k_subL)) (by rw [← hvl]; exact hBel)
  case step =>
    clear d1 d2 d3 l2 l3 N oF oP oR
    rintro i x m news K hx ⟨oF, oP, oR, H, hs, hsn, Bh, c, tc, vF, vP, d1, d2, d3, hB, hBel, hm1, hm2, hm3, l2, rfl⟩ hK T t h tk hT F
    have hil : i < vs.length := (List.getElem?_eq_some_iff.mp hx).1
    obtain ⟨tx, hx'⟩ := hI.get i (ns.getD i 0) (at_getD (by omega))
    rw [hx'] at hx
    cases hx
    have hz1 := hBel.len
    have hz2 := hB.length
    have hz : hs.length ≤ 12 := by omega
    ktu_objs
    k_steps
    · refine BInv.go hK hm1 hm2 hm3 (by k_mem) (by assumption) (by k_mem) (by assumption) (by k_mem) (by assumption) (by k_mem) (by k_mem) hB (hBel.hit (at_getD (by omega)) (is_any (by assumption))) l2
    · refine comp_inv (FInv _ (L + 1 + 1 + 1) fun j => (Bh.take j).map fun x => (nu ns i x, x)) ?step ?fin _ 0 [] _ (Nat.zero_add _) (FInv.zero rfl)
      case step =>
        rintro j ys _ K' hj ⟨tups, rfl, hY, hYc⟩ hK' v Ia oI C oC D m₂ h tk E' hv hC hxo F N off ne
        simp only [List.cons_append, List.nil_append] at N off
        have off' := off
        simp only [LCg.Off3] at off'
        have hjl : j < hs.length := by simpa using hj
        obtain ⟨tb, hb⟩ := hB.get j (Bh.getD j 0) (at_getD (by omega))
        have hv' : v = .int (Bh.getD j 0) tb := by
          have hv2 : hs[j]? = some v := by simpa using hv
          rw [hb] at hv2; exact (Option.some.inj hv2).symm
        subst hv'
        k_steps
        · show LCg.CompEnd _ _ _ _ _ _ _ _ _ _ _ _ _ _
          have hnu := nu_any (row := ns) (i := i) (x := Bh.getD j 0) (by assumption)
          refine far_end (p := (_, Bh.getD j 0)) (by assumption) (by assumption) hK' hY hYc ?hTc ?hb ?ht (by k_mem) off ?ne ?hS ?hf
          case hTc => k_ne
          case hb => k_subL
          case ht => walk_at "TAIL"
          case ne => exact ⟨by k_ne, by k_ne, by k_ne⟩
          case hS => intro n'; simp only [List.cons_append, List.nil_append]; exact .inr ⟨_, by k_mem, rfl, _, rfl⟩
          case hf => rw [take_map _ (by omega), hnu]
        · show LCg.CompEnd _ _ _ _ _ _ _ _ _ _ _ _ _ _
          have hnu := nu_none (row := ns) (i := i) (x := Bh.getD j 0) (by assumption)
          rw [← hvl] at hnu
          refine far_end (p := (_, Bh.getD j 0)) (by assumption) (by assumption) hK' hY hYc ?hTc ?hb ?ht (by k_mem) off ?ne ?hS ?hf
          case hTc => k_ne
          case hb => k_subL
          case ht => walk_at "TAIL"
          case ne => exact ⟨by k_ne, by k_ne, by k_ne⟩
          case hS => intro n'; simp only [List.cons_append, List.nil_append]; exact .inr ⟨_, by k_mem, rfl, _, rfl⟩
          case hf => rw [take_map _ (by omega), hnu]
      case fin =>
        rintro ys _ ⟨tups, rfl, hY, hYc⟩
        have hY' : TupsOf ys (Bh.map fun x => (nu ns i x, x)) tups := by
          have e : Bh.take hs.toArray.size = Bh := List.take_of_length_le (by rw [List.size_toArray]; omega)
          have this : TupsOf ys ((Bh.take hs.toArray.size).map fun x => (nu ns i x, x)) tups := hY
          rw [e] at this; exact this
        clear hY
        simp only [List.cons_append, List.nil_append]
        obtain ⟨M, hM, hMx⟩ := farthest ns i (B := Bh) (by intro e; have hz3 := hz2; rw [e, List.length_nil] at hz3; omega)
        walk_at "FinE"
        k_steps
        refine compT_inv (TInv _ M Bh) ?step ?fin _ 0 [] _ (Nat.zero_add _) TInv.zero
        case step =>
          rintro j zs _ K1 K2 hj ⟨rfl, hZ⟩ hK1 hK2 v Ia oI C oC D m₂ h tk E' hv hC hxo F N off ne
          have hjl : j < hs.length := by simpa using hj
          obtain ⟨tb, hb⟩ := hB.get j (Bh.getD j 0) (at_getD (by omega))
          have hv' : v = .int (Bh.getD j 0) tb := by
            have hv2 : hs[j]? = some v := by simpa using hv
            rw [hb] at hv2; exact (Option.some.inj hv2).symm
          subst hv'
          have hx' : ∀ p ∈ (Bh.map fun x => (nu ns i x, x)), (∀ q ∈ (Bh.map fun x => (nu ns i x, x)), q.1 < p.1 ∨ (q.1 = p.1 ∧ q.2 ≤ p.2)) → p.2 = M := fun p a b => max_is a b hM hMx
          k_steps
          all_goals (have e := hx' _ (by assumption) (by assumption))
          · refine LCg.CompEnd.intro (by assumption) (by assumption) _ (by walk_at "TAIL") off ?hS (hK1 _ _ (TInv.yes hZ (by omega) (by simp_all)))
            case hS => exact .inr ⟨_, by k_mem, rfl, _, rfl⟩
          · refine LCg.CompEnd.intro (by assumption) (by assumption) _ (by walk_at "TAIL") off ?hS (hK2 _ _ (TInv.no hZ (by omega) (by simp_all)))
            case hS => exact .inr ⟨_, by k_mem, rfl, _, rfl⟩
        case fin => 
          rintro zs _ ⟨rfl, hZ⟩
          have hZ' : IntsAre zs (Bh.filter fun x => decide (x ≠ M)) := by
            have e : Bh.take hs.toArray.size = Bh := List.take_of_length_le (by rw [List.size_toArray]; omega)
            have this : IntsAre zs ((Bh.take hs.toArray.size).filter fun x => decide (x ≠ M)) := hZ
            rw [e] at this; exact this
          clear hZ
          have hzl := List.length_filter_le (fun x => decide (x ≠ M)) Bh
          walk_at "FinA"
          k_steps
          refine BInv.fin (by assumption) (by assumption) hK (by rfl) (by rfl) (by exact hm3) (by k_mem) (by assumption) (by k_mem) (by assumption) (by k_mem) (by assumption) (by k_mem) (by k_mem) (by assumption) ?bel ?lt ?hits ?off
          case bel => exact hBel.load (at_getD (by omega)) (not_any (by assumption)) (far_ok (at_getD (by omega)) hBel.nodup (not_any (by assumption)) (by omega) hM hMx)
          case lt => exact ⟨by omega, by omega, by omega, by omega⟩
          case hits => k_subL
          case off => ktu_offL
    · refine BInv.go hK (by rfl) (by rfl) hm3 (by k_mem) (by assumption) (by k_mem) (by assumption) (by k_mem) (by assumption) (by k_mem) (by k_mem) (by assumption) (hBel.load (at_getD (by omega)) (not_any (by assumption)) (near_ok hBel.nodup (not_any (by assumption)) (by omega))) ⟨by omega, by omega, by omega, by omega⟩
set_option Elab.async true in
set_option maxRecDepth 100000 in
set_option maxHeartbeats 0 in
theorem whole : Box PySem.Challenge.rw_bb0016_02.Holds := by
  refine ⟨?_⟩
  (w_on; o_law; o_head (kHook Mine.pre.heap_1_1 [2, 3, 33, 35, 36, 38, 39, 40, 47, 49, 50, 52, 53, 54, 55, 56, 59, 66, 68, 69, 71, 72, 73, 75, 76, 78, 79, 80, 82, 83, 85, 86, 87, 88, 89, 92, 94, 95, 97, 98, 99, 101, 102, 104, 105, 106, 108, 109, 111, 112, 113, 115, 116, 118, 119, 120, 122, 123, 125, 126, 127, 129, 130, 132, 133, 141, 142, 144, 145, 147, 148, 149, 151, 152, 154, 155, 156, 158, 159, 161, 162, 163, 165, 166, 167, 170, 178, 179, 181, 182, 184, 185, 186, 188, 189, 191, 192, 193, 195, 196, 199, 207, 208, 210, 211, 213, 214, 215, 217, 218, 220, 221, 222, 224, 225, 227, 228, 229, 231, 232, 233, 236, 237, 244, 245, 247, 248, 250, 251, 252, 254, 255, 258, 259, 266, 267, 269, 270, 272, 273, 274, 276, 277, 279, 280, 281, 283, 284, 286, 287, 288, 290, 291, 293, 294, 295, 297, 298, 300, 301, 302, 304, 305, 307, 308, 309, 310, 311, 312, 314, 315, 317, 318, 319, 321, 322, 324, 325, 326, 328, 329, 331, 332, 333, 335, 336, 338, 339, 340, 342, 343, 345, 346, 347, 349, 350, 352, 353, 354, 356, 357, 359, 360, 361, 363, 364, 366, 367, 368, 370, 371, 374, 375, 382, 383, 385, 386, 388, 389, 390, 391, 393, 394, 396, 397, 398, 400, 401, 403, 404, 405, 407, 408, 410, 411, 412, 414, 415, 417, 418, 419, 421, 422, 424, 425, 426, 428, 429, 431, 432, 433, 435, 436, 438, 439, 440, 442, 443, 446, 447, 454, 455, 457, 458, 460, 461, 462, 464, 465, 467, 468, 469, 471, 472, 474, 475, 476, 478, 479, 481, 482, 483, 485, 486, 488, 489, 490, 492, 493, 494, 495, 498, 505, 506, 508, 509, 511, 512, 513, 514, 515, 516, 518, 519, 521, 522, 523, 525, 526, 528, 529, 530, 532, 533, 535, 536, 537, 539, 540, 543, 550, 551, 553, 554, 556, 557, 558, 559, 560, 561, 563, 564, 566, 567, 568, 570, 571, 573, 574, 575, 577, 578, 580, 581, 582, 584, 585, 588, 595, 596, 598, 599, 601, 602, 603, 605, 606, 608, 609, 610, 612, 613, 615, 616, 617, 619, 620, 623, 630, 631, 633, 634, 636, 637, 638, 640, 641, 643, 644, 645, 646, 647, 649, 650, 652, 653, 654, 656, 657, 659, 660, 661, 663, 664, 666, 667, 668, 669, 670, 672, 673, 675, 676, 677, 678, 680, 681, 683, 684, 685, 687, 688, 690, 691, 692, 694, 695, 698, 699, 706, 707, 708, 710, 711, 713, 714, 715, 717, 718, 720, 721, 722, 724, 725, 727, 728, 729, 731, 732, 734, 735, 736, 738, 739, 741, 742, 743, 745, 746, 748, 749, 750, 752, 753, 755, 756, 757, 759, 760, 762, 763, 764, 766, 767, 769, 770, 771, 772, 774, 775, 777, 778, 779, 780, 782, 783, 785, 786, 787, 788, 790, 791, 793, 794, 795, 797, 798, 800, 801, 802, 804, 805, 807, 808, 809, 810, 812, 813, 815, 816, 817, 818, 820, 821, 823, 824, 825, 826, 827, 828, 829, 830, 831, 832, 835, 842, 843, 845, 846, 848, 849, 850, 851, 853, 854, 856, 857, 858, 859, 861, 862, 864, 865, 866, 868, 869, 871, 872, 873, 875, 876, 878, 879, 880, 881, 882, 885, 892, 893, 895, 896, 898, 899, 900, 901, 903, 904, 906, 907, 908, 909, 911, 912, 914, 915, 916, 917, 919, 920, 922, 923, 924, 926, 927, 929, 930, 931, 933, 934, 936, 937, 938, 940, 941, 943, 944, 945, 946, 947, 950, 953, 954, 955, 958, 959] (fun _ => by kernel_rfl)); (case hw => w_witness2))
  k_go0
  (with_reducible rename Top _ _ _ _ _ _ => tX)
  change Top Mine.pre.view_1_2 _ _ _ _ _ at tX
  rename World => w
  have mL := MarkL.mk
  refine with_turn (by assumption) w.params (PySem.intKind PySem.Challenge.rw_bb0016_02.row.prog w) (Str.ofString "_FIFOCache__order") (Str.ofString "_LRUCache__order") 882 947 ?t0 ?t1 ?t2 ?kk
  case t0 =>
   as_aux_lemma =>
    intro Q oI p1 p2 p3 p4 p5 h tk m best room tb tr It D Lo a1 a2 a3 a4 a5 vs lsv n lsn ns ord lds R s m1 m2 hI hz hbl hll hL hld hord F hm2 hm4 hm5 hm6 N hR
    have mk := Mark.mk
    have hvl := hI.length
    have hzl := hL.length
    rw [List.length_map] at hzl
    (with_reducible rename Glob _ _ _ _ _ _ _ _ => glX)
    clear glX
    k_steps
    refine outer_loop (by exact hm2) (by exact hm4) (by exact hm5) (by exact hm6) (by walk_at "PICK") ?ostep ?ofin
    case ofin =>
      rintro m1 news1 ⟨hq1, hq2, hq3, hq4, rfl⟩ h1 tk1 F1 N1
      dsimp only [List.cons_append, List.nil_append] at N1
      (try dsimp only)
      k_steps
      exact turn_end F1 N1 (rest := [(D, W.listOf vs.toArray n), (a1, p1), (a2, p2), (a3, p3), (a4, p4), (a5, p5)]) (by k_subL) (by walk_at "OFFA") (hR m1 _ (by exact hq2) (by exact hq3) (by exact hq4) (by k_subL))
    case ostep =>
      clear hm2 hm4 hm5 hm6
      rintro b m1 news1 K1 hb ⟨hq1, hq2, hq3, hq4, rfl⟩ hK1 t1 h1 tk1 F1
      dsimp only [List.cons_append, List.nil_append]
      rw [Int.zero_add]
      ktu_objs
      k_steps
      refine inner_loop ns lds b (by exact hq1) (by exact hq2) (by exact hq3) (by exact hq4) (by rfl) (by rfl) (by walk_at "PICK") ?istep ?ifin
      case ifin =>
        rintro m2 news2 ⟨sv, sn, S, lv, ln, Lq, hS, hLq, hE, hr1, hr2, hr3, hr4, hr5, hr6, rfl⟩ h2 tk2 F2 N2
        dsimp only [List.cons_append, List.nil_append] at N2
        (try dsimp only)
        k_steps
        exact OInv.go hK1 (by k_subL) (by exact hr1) (by exact hr2) (by exact hr3) (by exact hr4)
      case istep =>
        rintro j m2 news2 K2 hj ⟨sv, sn, S, lv, ln, Lq, hS, hLq, hE, hr1, hr2, hr3, hr4, hr5, hr6, rfl⟩ hK2 t2 h2 tk2 F2
        dsimp only [List.cons_append, List.nil_append]
        rw [← Int.natCast_add]
        have hp : b + j < ns.length := by omega
        have hpx : ns[b + j]? = some (ns.getD (b + j) 0) := at_getD hp
        have hsl := hE.len
        have hsz := hS.length
        have hqz := hLq.length
        have hql := hE.ll
        generalize hpe : b + j = p at hp hpx ⊢
        ktu_objs
        k_steps
        all_goals subst hpe
        · exact (hE.no hld hpx (in_lds (by assumption)) (by assumption)).elim
        · simp only [List.push_toArray]
          exact EInv.go hK2 (by k_subL) hS (ints_snoc hLq) ((hE.same hpx (by assumption)).lay hql hpx (in_lds (by assumption))) (by exact hr1) (by exact hr2) (by exact hr3) (by exact hr4) (by exact hr5) (by exact hr6)
        · exact EInv.go hK2 (by k_subL) hS hLq (hE.same hpx (by assumption)) (by exact hr1) (by exact hr2) (by exact hr3) (by exact hr4) (by exact hr5) (by exact hr6)
        · exact OInv.go hK1 (by k_subL) (by exact hr1) (by exact hr2) (by exact hr3) (by exact hr4)
        · exact (hE.no hld hpx (in_lds (by assumption)) (by assumption)).elim
        · simp only [List.push_toArray]
          exact EInv.go hK2 (by k_subL) (ints_snoc hS) (ints_snoc hLq) ((hE.more hpx (by rw [List.length_append, List.length_singleton]; omega)).lay hql hpx (in_lds (by assumption))) (by exact hr1) (by exact hr2) (by exact hr3) (by exact hr4) (by exact hr5) (by exact hr6)
        · exact EInv.go hK2 (by k_subL) (ints_snoc hS) hLq (hE.more hpx (by rw [List.length_append, List.length_singleton]; omega)) (by exact hr1) (by exact hr2) (by exact hr3) (by exact hr4) (by exact hr5) (by exact hr6)

  case t1 =>
   as_aux_lemma =>
    intro t0
    intro Q c te o1 o2 oI p1 p2 p3 p4 p5 h tk m best room tb tr It D a1 a2 a3 a4 a5 vs n ns Bh R s O hmx m1 m2 hI hz hbel hord hcI F hm1 hm2 hm3 N D1 D2 hR
    obtain ⟨x, dx, d1, d2, ta, tb, tc, td, tf, mx⟩ := c
    cases hmx
    have mk := Mark.mk
    have hvl := hI.length
    unfold ordF at hord
    have O' := O
    obtain ⟨l1, l2, l3, lo1, lo2⟩ := O'
    dsimp only at hord l1 l2 l3 lo1 lo2 m1 m2 hbel hm2 hR
    dsimp only [led, List.cons_append, List.nil_append] at N ⊢
    (with_reducible rename Glob _ _ _ _ _ _ _ _ => glX)
    clear glX
    k_steps
    refine law_loop w.params (PySem.intKind PySem.Challenge.rw_bb0016_02.row.prog w) 882 (Str.ofString "_FIFOCache__order") ⟨_, _, _, _, _, _, _, _, _, mx⟩ (ns := ns) (by rfl) (by rfl) (by rfl) (by exact hm1) (by exact hm2) (by exact hm3) (by walk_at "LPICK") (by assumption) (by assumption) (by assumption) ?step ?fin
    case fin =>
      clear hm1 hm2 hm3 D1 D2
      rintro m news ⟨cur, te, o1, o2, od, kvs, ov, lkv, ord, lds, lsv, lsn, core, hcur, hov, D1, D2, D3, hL, hm1, hm2, hm3, hm4, hm5, hm6, rfl⟩ h tk F N
      rw [hvl] at core
      have u0 := @t0
      unfold FinSpec at u0
      dsimp only
      exact u0 _ (oI := oI) (It := It) (D := D) (a1 := a1) (p1 := p1) (a2 := a2) (p2 := p2) (a3 := a3) (p3 := p3) (a4 := a4) (p4 := p4) (a5 := a5) (p5 := p5) m1 m2 hI hz (best_le hbel core.pol) core.ll hL core.ldd (by omega) F (by exact hm2) (by exact hm4) (by exact hm5) (by exact hm6) (News.cut N (by walk_at "LEDSUB")) hR
    case step =>
      clear hm1 hm2 hm3 D1 D2
      rintro i xv m news K hx ⟨cur, te, o1, o2, od, kvs, ov, lkv, ord, lds, lsv, lsn, core, hcur, hov, D1, D2, D3, hL, hm1, hm2, hm3, hm4, hm5, hm6, rfl⟩ hK T t h tk hT F
      have hil : i < vs.length := (List.getElem?_eq_some_iff.mp hx).1
      obtain ⟨tx, hx'⟩ := hI.get i (ns.getD i 0) (at_getD (by omega))
      have hns : ns[i]? = some (ns.getD i 0) := at_getD (by omega)
      rw [hx'] at hx
      cases hx
      have hlen := core.len
      have hle := core.pol.len
      have hlk := core.lk
      have hll := core.ll
      have hzl := hL.length
      rw [List.length_map] at hzl
      subst hov
      have hno : (nones ord).length = ord.length := by unfold nones; rw [List.length_map]
      dsimp only [led, List.cons_append, List.nil_append]
      by_cases hin : ns.getD i 0 ∈ ord
      · as_aux_lemma =>
        obtain ⟨p, tp, hv, hv2⟩ := core.val _ hin
        have hvo := nones_some hin
        have d := @Box.out _ hitF
        unfold SdHit at d
        have hpre : valueAt kvs (ns.getD i 0) = some (.int p tp) ∧ valueAt (nones ord) (ns.getD i 0) = some .none ∧ kvs.length ≤ 12 ∧ (nones ord).length ≤ 12 := ⟨hv, hvo, by omega, by omega⟩
        ktu_objs
        k_steps
        refine Or.inl ?_
        walk_at "DLAW"
        k_steps
        · (exfalso; omega)
        · exact LInv.go hK (by walk_at "LEDSUB") (core.stay hns hin) hcur rfl (by assumption) (by assumption) (by assumption) hL (by exact hm1) (by exact hm2) (by exact hm3) (by exact hm4) (by exact hm5) (by exact hm6)
      · as_aux_lemma =>
        have hv := core.none hin
        have hvo := nones_none hin
        ktu_objs
        k_steps
        refine Or.inl ?_
        by_cases hlt : ord.length < mx.toNat
        · as_aux_lemma =>
          skip
          have d := @Box.out _ newF
          unfold SdNew at d
          have hpre : valueAt kvs (ns.getD i 0) = none ∧ valueAt (nones ord) (ns.getD i 0) = none ∧ cur < mx ∧ 1 ≤ mx ∧ mx ≤ 12 ∧ kvs.length ≤ 12 ∧ (nones ord).length ≤ 12 := ⟨hv, hvo, by omega, by omega, by omega, by omega, by omega⟩
          have hst := stored_len kvs (ns.getD i 0) (.int (i : Int) t)
          walk_at "DLAW"
          k_steps
          · (exfalso; omega)
          · exact LInv.go hK (by walk_at "LEDSUB") (core.load (by omega) hns hin hlt t) (by rw [List.length_append, List.length_singleton]; omega) (nones_stored hin) (by assumption) (by assumption) (by assumption) (by rw [List.map_append]; exact ints_snoc hL) (by exact hm1) (by exact hm2) (by exact hm3) (by exact hm4) (by exact hm5) (by exact hm6)
        · as_aux_lemma =>
          skip
          rcases ord with _ | ⟨k0, rest⟩
          · exfalso; rw [List.length_nil] at hlt; omega
          have hfl : (k0 :: rest).length = mx.toNat := by omega
          have d := @Box.out _ fullF
          unfold SdFull at d
          have hpre : FullPre ⟨x, dx, d1, d2, ta, tb, tc, td, tf, mx⟩ cur kvs (nones (k0 :: rest)) (ns.getD i 0) := by rw [hcur]; exact core.full hin hfl (show mx = _ from (Int.toNat_of_nonneg (by omega)).symm) (by omega) (by omega)
          have hst := (core.drop (by omega) hns hin hfl t).len
          rw [List.length_append, List.length_singleton] at hst
          rw [List.length_cons] at hfl hlen hle hno
          walk_at "DLAW"
          rename_i E1 E2
          rw [show first (nones (k0 :: rest)) (ns.getD i 0) = k0 from rfl] at E1 E2
          k_steps
          · (exfalso; omega)
          · exact LInv.go hK (by walk_at "LEDSUB") (core.drop (by omega) hns hin hfl t) (by show mx - 1 + 1 = _; rw [List.length_append, List.length_singleton]; omega) (core.dropped hin) (by assumption) (by assumption) (by assumption) (by rw [List.map_append]; exact ints_snoc hL) (by exact hm1) (by exact hm2) (by exact hm3) (by exact hm4) (by exact hm5) (by exact hm6)


  case t2 =>
   as_aux_lemma =>
    intro t0
    intro Q c te o1 o2 oI p1 h tk m best room tb tr It D a1 vs n ns Bh R s O hmx m1 m2 hI hz hbel hord hcI F hm1 hm2 hm3 N D1 D2 hR
    obtain ⟨x, dx, d1, d2, ta, tb, tc, td, tf, mx⟩ := c
    cases hmx
    have mk := Mark.mk
    have hvl := hI.length
    unfold ordL at hord
    have O' := O
    obtain ⟨l1, l2, l3, lo1, lo2⟩ := O'
    dsimp only at hord l1 l2 l3 lo1 lo2 m1 m2 hbel hm2 hR
    dsimp only [led, List.cons_append, List.nil_append] at N ⊢
    (with_reducible rename Glob _ _ _ _ _ _ _ _ => glX)
    clear glX
    k_steps
    refine law_loop w.params (PySem.intKind PySem.Challenge.rw_bb0016_02.row.prog w) 947 (Str.ofString "_LRUCache__order") ⟨_, _, _, _, _, _, _, _, _, mx⟩ (ns := ns) (by rfl) (by rfl) (by rfl) (by exact hm1) (by exact hm2) (by exact hm3) (by walk_at "LPICK") (by assumption) (by assumption) (by assumption) ?step ?fin
    case fin =>
      clear hm1 hm2 hm3 D1 D2
      rintro m news ⟨cur, te, o1, o2, od, kvs, ov, lkv, ord, lds, lsv, lsn, core, hcur, hov, D1, D2, D3, hL, hm1, hm2, hm3, hm4, hm5, hm6, rfl⟩ h tk F N
      rw [hvl] at core
      have u0 := @t0
      unfold FinSpec at u0
      dsimp only
      exact u0 _ (oI := oI) (It := It) (D := D) (a1 := a1) (p1 := p1) (a2 := a1) (p2 := p1) (a3 := a1) (p3 := p1) (a4 := a1) (p4 := p1) (a5 := a1) (p5 := p1) m1 m2 hI hz (best_le hbel core.pol) core.ll hL core.ldd (by omega) F (by exact hm2) (by exact hm4) (by exact hm5) (by exact hm6) (News.cut N (by walk_at "LEDSUB")) (fun m9 n9 y1 y2 y3 y4 => hR m9 n9 y1 y2 y3 ⟨y4.1, y4.2.1, trivial⟩)
    case step =>
      clear hm1 hm2 hm3 D1 D2
      rintro i xv m news K hx ⟨cur, te, o1, o2, od, kvs, ov, lkv, ord, lds, lsv, lsn, core, hcur, hov, D1, D2, D3, hL, hm1, hm2, hm3, hm4, hm5, hm6, rfl⟩ hK T t h tk hT F
      have hil : i < vs.length := (List.getElem?_eq_some_iff.mp hx).1
      obtain ⟨tx, hx'⟩ := hI.get i (ns.getD i 0) (at_getD (by omega))
      have hns : ns[i]? = some (ns.getD i 0) := at_getD (by omega)
      rw [hx'] at hx
      cases hx
      have hlen := core.len
      have hle := core.pol.len
      have hlk := core.lk
      have hll := core.ll
      have hzl := hL.length
      rw [List.length_map] at hzl
      subst hov
      have hno : (nones ord).length = ord.length := by unfold nones; rw [List.length_map]
      dsimp only [led, List.cons_append, List.nil_append]
      by_cases hin : ns.getD i 0 ∈ ord
      · as_aux_lemma =>
        obtain ⟨p, tp, hv, hv2⟩ := core.val _ hin
        have hvo := nones_some hin
        have d := @Box.out _ hitL
        unfold SdHit at d
        have hpre : valueAt kvs (ns.getD i 0) = some (.int p tp) ∧ valueAt (nones ord) (ns.getD i 0) = some .none ∧ kvs.length ≤ 12 ∧ (nones ord).length ≤ 12 := ⟨hv, hvo, by omega, by omega⟩
        ktu_objs
        k_steps
        refine Or.inl ?_
        walk_at "DLAW"
        k_steps
        · (exfalso; omega)
        · exact LInv.go hK (by walk_at "LEDSUB") (core.touch hns hin) (by have hh := List.length_pos_of_mem hin; rw [List.length_append, List.length_singleton, List.length_erase_of_mem hin]; omega) (core.touched hin) (by assumption) (by assumption) (by assumption) hL (by exact hm1) (by exact hm2) (by exact hm3) (by exact hm4) (by exact hm5) (by exact hm6)
      · as_aux_lemma =>
        have hv := core.none hin
        have hvo := nones_none hin
        ktu_objs
        k_steps
        refine Or.inl ?_
        by_cases hlt : ord.length < mx.toNat
        · as_aux_lemma =>
          skip
          have d := @Box.out _ newL
          unfold SdNew at d
          have hpre : valueAt kvs (ns.getD i 0) = none ∧ valueAt (nones ord) (ns.getD i 0) = none ∧ cur < mx ∧ 1 ≤ mx ∧ mx ≤ 12 ∧ kvs.length ≤ 12 ∧ (nones ord).length ≤ 12 := ⟨hv, hvo, by omega, by omega, by omega, by omega, by omega⟩
          have hst := stored_len kvs (ns.getD i 0) (.int (i : Int) t)
          walk_at "DLAW"
          k_steps
          · (exfalso; omega)
          · exact LInv.go hK (by walk_at "LEDSUB") (core.load (by omega) hns hin hlt t) (by rw [List.length_append, List.length_singleton]; omega) (nones_stored hin) (by assumption) (by assumption) (by assumption) (by rw [List.map_append]; exact ints_snoc hL) (by exact hm1) (by exact hm2) (by exact hm3) (by exact hm4) (by exact hm5) (by exact hm6)
        · as_aux_lemma =>
          skip
          rcases ord with _ | ⟨k0, rest⟩
          · exfalso; rw [List.length_nil] at hlt; omega
          have hfl : (k0 :: rest).length = mx.toNat := by omega
          have d := @Box.out _ fullL
          unfold SdFull at d
          have hpre : FullPre ⟨x, dx, d1, d2, ta, tb, tc, td, tf, mx⟩ cur kvs (nones (k0 :: rest)) (ns.getD i 0) := by rw [hcur]; exact core.full hin hfl (show mx = _ from (Int.toNat_of_nonneg (by omega)).symm) (by omega) (by omega)
          have hst := (core.drop (by omega) hns hin hfl t).len
          rw [List.length_append, List.length_singleton] at hst
          rw [List.length_cons] at hfl hlen hle hno
          walk_at "DLAW"
          rename_i E1 E2
          rw [show first (nones (k0 :: rest)) (ns.getD i 0) = k0 from rfl] at E1 E2
          k_steps
          · (exfalso; omega)
          · exact LInv.go hK (by walk_at "LEDSUB") (core.drop (by omega) hns hin hfl t) (by show mx - 1 + 1 = _; rw [List.length_append, List.length_singleton]; omega) (core.dropped hin) (by assumption) (by assumption) (by assumption) (by rw [List.map_append]; exact ints_snoc hL) (by exact hm1) (by exact hm2) (by exact hm3) (by exact hm4) (by exact hm5) (by exact hm6)


  case kk =>
   as_aux_lemma =>
    intro t1 t2
    k_steps
    refine Or.inl ?_
    refine or_join (by assumption) (by rfl) ?_ ?_
    · have mk := Mark.mk
      k_steps
      · exact RowAt.intro (by assumption) (by assumption) (by k_mem) (by assumption) (by simp only [List.length_map, List.length_take]; omega)
      · refine RowAt.introA (ns := [0, 1, 2, 3, 0, 1, 4, 0, 1, 2, 3, 4]) (by assumption) (by assumption) (by k_mem) ?_ (by decide)
        repeat (first | exact IntsAre.nil | refine IntsAre.cons _ _ ?_)
    · intro D vs n ns h tk m room tr m1 m2 hm1 F N hI hz
      have mk := Mark.mk
      have hvl := hI.length
      have best1 := @Box.out _ best2
      (with_reducible rename Glob _ _ _ _ _ _ _ _ => glX)
      clear glX
      k_steps
      refine Or.inl ?_
      refine both_turns t1 t2 (by rfl) (by exact hm1) (by rfl) m1 m2 hI hz (by assumption) (by assumption) (by assumption) (by assumption) (by assumption) (by assumption) (by assumption) (by assumption) (by assumption) (by omega) ?kfin
      intro h9 tk9 m9 F9
      dsimp only
      k_steps
      all_goals trace_state

end Mine
end
theorem PySem.Challenge.cw_bb0016_02_holds : PySem.Challenge.rw_bb0016_02.Holds :=
  Mine.whole.out
