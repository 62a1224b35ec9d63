import PyProof.Rows.All
import Wide.All
import OpenK.AllK
import Wide.FinOn
import PySem.Challenge.RW_dp0040_01
open PySem PySem.W PyProof.Rows PySem.Calls PySem.Spec
set_option Elab.async false
namespace Mine

/-! ## The plain law: sifting a list of ints -/
section
/-- sift the item at pos towards start -/
def sd (f : Int → Int) (start : Nat) (h : List Int) (pos : Nat) : List Int :=
  if start < pos then
    if f (h.getD pos 0) < f (h.getD ((pos - 1) / 2) 0) then
      sd f start ((h.set pos (h.getD ((pos - 1) / 2) 0)).set ((pos - 1) / 2) (h.getD pos 0)) ((pos - 1) / 2)
    else h
  else h
termination_by pos
decreasing_by omega

/-- the child that moves up -/
def kid (f : Int → Int) (h : List Int) (pos : Nat) : Nat :=
  if 2 * pos + 2 < h.length ∧ ¬ f (h.getD (2 * pos + 1) 0) < f (h.getD (2 * pos + 2) 0) then 2 * pos + 2 else 2 * pos + 1

theorem kid_gt (f : Int → Int) (h : List Int) (pos : Nat) : pos < kid f h pos := by
  unfold kid; split <;> omega
theorem kid_lt {f : Int → Int} {h : List Int} {pos : Nat} (e : 2 * pos + 1 < h.length) : kid f h pos < h.length := by
  unfold kid; split <;> omega

def bub (f : Int → Int) (h : List Int) (pos : Nat) : List Int × Nat :=
  if 2 * pos + 1 < h.length then
    bub f ((h.set pos (h.getD (kid f h pos) 0)).set (kid f h pos) (h.getD pos 0)) (kid f h pos)
  else (h, pos)
termination_by h.length - pos
decreasing_by
  have := kid_gt f h pos
  simp only [List.length_set]
  omega

def su (f : Int → Int) (h : List Int) (pos : Nat) : List Int := sd f pos (bub f h pos).1 (bub f h pos).2

def push (f : Int → Int) (h : List Int) (x : Int) : List Int := sd f 0 (h ++ [x]) h.length

def drop (f : Int → Int) (h : List Int) (place : Nat) : List Int :=
  if place < h.dropLast.length then sd f 0 (su f (h.dropLast.set place (h.getLastD 0)) place) place else h.dropLast

/-! swaps -/
abbrev sw (h : List Int) (i j : Nat) : List Int := (h.set i (h.getD j 0)).set j (h.getD i 0)

theorem getD_get {h : List Int} {i : Nat} (e : i < h.length) : h.getD i 0 = h[i] := by simp [e]

theorem sw_get {h : List Int} {i j k : Nat} (hi : i < h.length) (hj : j < h.length) :
    (sw h i j).getD k 0 = if k = j then h.getD i 0 else if k = i then h.getD j 0 else h.getD k 0 := by
  simp only [sw, List.getD_eq_getElem?_getD, List.getElem?_set, List.length_set]
  by_cases h1 : j = k
  · subst h1; simp [hj]
  · have h1' : k ≠ j := fun e => h1 e.symm
    simp only [if_neg h1, if_neg h1']
    by_cases h2 : i = k
    · subst h2; simp [hi]
    · have h2' : k ≠ i := fun e => h2 e.symm
      simp only [if_neg h2, if_neg h2']

theorem sw_perm {h : List Int} {i j : Nat} (hi : i < h.length) (hj : j < h.length) : (sw h i j).Perm h := by
  unfold sw
  rw [getD_get hi, getD_get hj]
  exact List.set_set_perm hi hj

theorem sw_len {h : List Int} {i j : Nat} : (sw h i j).length = h.length := by simp [sw]

/-! the heap's order -/
def Hp (f : Int → Int) (h : List Int) : Prop := ∀ i, 0 < i → i < h.length → f (h.getD ((i - 1) / 2) 0) ≤ f (h.getD i 0)
def S1 (f : Int → Int) (h : List Int) (p : Nat) : Prop :=
  (∀ i, 0 < i → i < h.length → i ≠ p → f (h.getD ((i - 1) / 2) 0) ≤ f (h.getD i 0)) ∧
  (∀ i, 0 < i → i < h.length → (i - 1) / 2 = p → 0 < p → f (h.getD ((p - 1) / 2) 0) ≤ f (h.getD i 0))
def B1 (f : Int → Int) (h : List Int) (p : Nat) : Prop :=
  (∀ i, 0 < i → i < h.length → i ≠ p → (i - 1) / 2 ≠ p → f (h.getD ((i - 1) / 2) 0) ≤ f (h.getD i 0)) ∧
  (∀ i, 0 < i → i < h.length → (i - 1) / 2 = p → 0 < p → f (h.getD ((p - 1) / 2) 0) ≤ f (h.getD i 0))

inductive Desc (s : Nat) : Nat → Prop
  | refl : Desc s s
  | child {p i : Nat} : Desc s p → (i - 1) / 2 = p → 0 < i → Desc s i

theorem Desc.ge {s p : Nat} (d : Desc s p) : s ≤ p := by
  induction d with
  | refl => exact Nat.le_refl _
  | child _ e _ ih => omega
theorem Desc.up {s p : Nat} (d : Desc s p) (h : s < p) : Desc s ((p - 1) / 2) := by
  cases d with
  | refl => exact absurd h (Nat.lt_irrefl _)
  | child d e _ => exact e ▸ d
theorem Desc.zero : ∀ (n p : Nat), p ≤ n → Desc 0 p
  | _, 0, _ => .refl
  | 0, p + 1, h => absurd h (by omega)
  | n + 1, p + 1, h => .child (Desc.zero n ((p + 1 - 1) / 2) (by omega)) rfl (by omega)
theorem Desc.trans {s p q : Nat} (d : Desc s p) (e : Desc p q) : Desc s q := by
  induction e with
  | refl => exact d
  | child _ e h ih => exact .child ih e h

theorem Hp.s1 {f : Int → Int} {h : List Int} (H : Hp f h) (p : Nat) : S1 f h p := by
  refine ⟨fun i h1 h2 _ => H i h1 h2, fun i h1 h2 e hp => ?_⟩
  have a := H i h1 h2
  rw [e] at a
  have b := H p hp (by omega)
  omega
theorem S1.hp {f : Int → Int} {h : List Int} (H : S1 f h 0) : Hp f h := fun i h1 h2 => H.1 i h1 h2 (by omega)

theorem s1_step {f : Int → Int} {h : List Int} {p : Nat} (H : S1 f h p) (hp : 0 < p) (hl : p < h.length) (lt : f (h.getD p 0) < f (h.getD ((p - 1) / 2) 0)) : S1 f (sw h p ((p - 1) / 2)) ((p - 1) / 2) := by
  have hq : (p - 1) / 2 < h.length := by omega
  obtain ⟨a, b⟩ := H
  refine ⟨fun i h1 h2 h3 => ?_, fun i h1 h2 h3 h4 => ?_⟩
  · rw [sw_len] at h2
    rw [sw_get hl hq, sw_get hl hq]
    have a1 := a i h1 h2
    have b1 := b i h1 h2
    by_cases e1 : i = p
    · subst e1
      rw [if_pos rfl, if_neg h3, if_pos rfl]
      omega
    · rw [if_neg h3, if_neg e1]
      by_cases e2 : (i - 1) / 2 = (p - 1) / 2
      · rw [if_pos e2]
        have := a1 e1
        rw [e2] at this
        omega
      · rw [if_neg e2]
        by_cases e3 : (i - 1) / 2 = p
        · rw [if_pos e3]
          exact b1 e3 hp
        · rw [if_neg e3]
          exact a1 e1
  · rw [sw_len] at h2
    rw [sw_get hl hq, sw_get hl hq]
    have n1 : ((p - 1) / 2 - 1) / 2 ≠ (p - 1) / 2 := by omega
    have n2 : ((p - 1) / 2 - 1) / 2 ≠ p := by omega
    rw [if_neg n1, if_neg n2]
    have c := a ((p - 1) / 2) h4 hq (by omega)
    have n3 : i ≠ (p - 1) / 2 := by omega
    rw [if_neg n3]
    by_cases e1 : i = p
    · rw [if_pos e1]; exact c
    · rw [if_neg e1]
      have := a i h1 h2 e1
      rw [h3] at this
      omega

theorem sd_spec {f : Int → Int} {s : Nat} : ∀ (n p : Nat) (h : List Int), p ≤ n → S1 f h p → Desc s p → p < h.length → S1 f (sd f s h p) s ∧ (sd f s h p).Perm h := by
  intro n
  induction n with
  | zero =>
    intro p h hn H d hl
    have : p = 0 := by omega
    subst this
    have := d.ge
    have e : s = 0 := by omega
    subst e
    rw [sd, if_neg (by omega)]
    exact ⟨H, .refl _⟩
  | succ n ih =>
    intro p h hn H d hl
    rw [sd]
    by_cases h1 : s < p
    · rw [if_pos h1]
      by_cases h2 : f (h.getD p 0) < f (h.getD ((p - 1) / 2) 0)
      · rw [if_pos h2]
        have K := ih ((p - 1) / 2) (sw h p ((p - 1) / 2)) (by omega) (s1_step H (by omega) hl h2) (d.up h1) (by rw [sw_len]; omega)
        exact ⟨K.1, K.2.trans (sw_perm hl (by omega))⟩
      · rw [if_neg h2]
        refine ⟨Hp.s1 (fun i h3 h4 => ?_) s, .refl _⟩
        by_cases e : i = p
        · subst e; omega
        · exact H.1 i h3 h4 e
    · rw [if_neg h1]
      have := d.ge
      have e : s = p := by omega
      subst e
      exact ⟨H, .refl _⟩

theorem kid_is {f : Int → Int} {h : List Int} {p : Nat} (e : 2 * p + 1 < h.length) : (kid f h p - 1) / 2 = p ∧ 0 < kid f h p ∧ ∀ i, 0 < i → i < h.length → (i - 1) / 2 = p → f (h.getD (kid f h p) 0) ≤ f (h.getD i 0) := by
  unfold kid
  split
  · rename_i c
    refine ⟨by omega, by omega, fun i h1 h2 h3 => ?_⟩
    have : i = 2 * p + 1 ∨ i = 2 * p + 2 := by omega
    rcases this with rfl | rfl <;> omega
  · rename_i c
    refine ⟨by omega, by omega, fun i h1 h2 h3 => ?_⟩
    have : i = 2 * p + 1 ∨ i = 2 * p + 2 := by omega
    rcases this with rfl | rfl
    · omega
    · have : f (h.getD (2 * p + 1) 0) < f (h.getD (2 * p + 2) 0) := Decidable.byContradiction fun q => c ⟨h2, q⟩
      omega

theorem b1_step {f : Int → Int} {h : List Int} {p : Nat} (H : B1 f h p) (e : 2 * p + 1 < h.length) : B1 f (sw h p (kid f h p)) (kid f h p) := by
  obtain ⟨a, b⟩ := H
  obtain ⟨k1, k2, k3⟩ := kid_is (f := f) e
  have k4 := kid_lt (f := f) e
  have k5 := kid_gt f h p
  have hp : p < h.length := by omega
  generalize hc : kid f h p = c at *
  refine ⟨fun i h1 h2 h3 h4 => ?_, fun i h1 h2 h3 h4 => ?_⟩
  · rw [sw_len] at h2
    rw [sw_get hp k4, sw_get hp k4, if_neg h4, if_neg h3]
    by_cases e1 : i = p
    · subst e1
      have n1 : (i - 1) / 2 ≠ i := by omega
      rw [if_neg n1, if_pos rfl]
      exact b c k2 k4 k1 h1
    · rw [if_neg e1]
      by_cases e2 : (i - 1) / 2 = p
      · rw [if_pos e2]; exact k3 i h1 h2 e2
      · rw [if_neg e2]; exact a i h1 h2 e1 e2
  · rw [sw_len] at h2
    rw [sw_get hp k4, sw_get hp k4, k1]
    have n1 : p ≠ c := by omega
    have n2 : i ≠ c := by omega
    have n3 : i ≠ p := by omega
    rw [if_neg n1, if_pos rfl, if_neg n2, if_neg n3]
    have := a i h1 h2 n3 (by omega)
    rw [h3] at this
    exact this

theorem bub_spec {f : Int → Int} : ∀ (n : Nat) (h : List Int) (p : Nat), h.length - p ≤ n → B1 f h p → p < h.length → S1 f (bub f h p).1 (bub f h p).2 ∧ Desc p (bub f h p).2 ∧ (bub f h p).1.Perm h ∧ (bub f h p).2 < h.length := by
  intro n
  induction n with
  | zero => intro h p hn _ hl; omega
  | succ n ih =>
    intro h p hn H hl
    rw [bub]
    by_cases e : 2 * p + 1 < h.length
    · rw [if_pos e]
      have k4 := kid_lt (f := f) e
      have k5 := kid_gt f h p
      obtain ⟨k1, k2, k3⟩ := kid_is (f := f) e
      have K := ih (sw h p (kid f h p)) (kid f h p) (by rw [sw_len]; omega) (b1_step H e) (by rw [sw_len]; exact k4)
      rw [sw_len] at K
      exact ⟨K.1, (Desc.child .refl k1 k2).trans K.2.1, K.2.2.1.trans (sw_perm hl k4), K.2.2.2⟩
    · rw [if_neg e]
      refine ⟨⟨fun i h1 h2 h3 => H.1 i h1 h2 h3 (by dsimp only at *; omega), fun i h1 h2 h3 h4 => ?_⟩, .refl, .refl _, hl⟩
      dsimp only at *
      omega

theorem su_spec {f : Int → Int} {h : List Int} {p : Nat} (H : B1 f h p) (hl : p < h.length) : S1 f (su f h p) p ∧ (su f h p).Perm h := by
  obtain ⟨a, b, c, d⟩ := bub_spec (h.length - p) h p (Nat.le_refl _) H hl
  have K := sd_spec (s := p) _ (bub f h p).2 (bub f h p).1 (Nat.le_refl _) a b (by rw [c.length_eq]; exact d)
  exact ⟨K.1, K.2.trans c⟩

theorem sd_len (f : Int → Int) (s : Nat) : ∀ (n p : Nat) (h : List Int), p ≤ n → (sd f s h p).length = h.length := by
  intro n
  induction n with
  | zero =>
    intro p h hn
    rw [sd, if_neg (by omega)]
  | succ n ih =>
    intro p h hn
    rw [sd]
    by_cases h1 : s < p
    · rw [if_pos h1]
      split
      · rw [ih _ _ (by omega)]; simp
      · rfl
    · rw [if_neg h1]
theorem bub_len (f : Int → Int) : ∀ (n : Nat) (h : List Int) (p : Nat), h.length - p ≤ n → (bub f h p).1.length = h.length := by
  intro n
  induction n with
  | zero =>
    intro h p hn
    rw [bub, if_neg (by omega)]
  | succ n ih =>
    intro h p hn
    rw [bub]
    by_cases e : 2 * p + 1 < h.length
    · rw [if_pos e]
      have := kid_gt f h p
      rw [ih _ _ (by simp only [List.length_set]; omega)]
      simp
    · rw [if_neg e]
theorem su_len (f : Int → Int) (h : List Int) (p : Nat) : (su f h p).length = h.length := by
  rw [su, sd_len f p _ _ _ (Nat.le_refl _), bub_len f _ _ _ (Nat.le_refl _)]
theorem push_len (f : Int → Int) (h : List Int) (x : Int) : (push f h x).length = h.length + 1 := by
  rw [push, sd_len f _ _ _ _ (Nat.le_refl _)]; simp
theorem drop_len (f : Int → Int) (h : List Int) (p : Nat) : (drop f h p).length = h.length - 1 := by
  unfold drop
  split
  · rw [sd_len f _ _ _ _ (Nat.le_refl _), su_len]; simp
  · simp

theorem push_spec {f : Int → Int} {h : List Int} {x : Int} (H : Hp f h) : Hp f (push f h x) ∧ (push f h x).Perm (h ++ [x]) := by
  have g : ∀ i, i < h.length → (h ++ [x]).getD i 0 = h.getD i 0 := fun i hi => by simp [List.getD_eq_getElem?_getD, List.getElem?_append_left hi]
  have K := sd_spec (f := f) (s := 0) _ h.length (h ++ [x]) (Nat.le_refl _) ⟨fun i h1 h2 h3 => by
      have h4 : i < h.length := by simp at h2; omega
      rw [g _ h4, g _ (by omega)]
      exact H i h1 h4, fun i h1 h2 h3 h4 => by simp at h2; omega⟩ (Desc.zero _ _ (Nat.le_refl _)) (by simp)
  exact ⟨K.1.hp, K.2⟩

theorem set_perm {h : List Int} {p : Nat} (e : p < h.length) (x : Int) : (h[p] :: h.set p x).Perm (x :: h) := by
  have q : h.set p x = h.take p ++ x :: h.drop (p + 1) := by rw [List.set_eq_take_append_cons_drop, if_pos e]
  have r : h = h.take p ++ h[p] :: h.drop (p + 1) := by
    rw [List.getElem_cons_drop, List.take_append_drop]
  have t : h.Perm (h[p] :: (h.take p ++ h.drop (p + 1))) := by
    have := @List.perm_middle _ h[p] (h.take p) (h.drop (p + 1))
    rw [← r] at this
    exact this
  rw [q]
  exact (List.perm_middle.cons _).trans ((List.Perm.swap _ _ _).trans (t.symm.cons _))

theorem drop_spec {f : Int → Int} {h : List Int} {p : Nat} (H : Hp f h) (hl : p < h.length) : Hp f (drop f h p) ∧ (h.getD p 0 :: drop f h p).Perm h := by
  have hne : h ≠ [] := by intro e; subst e; simp at hl
  have hd : h.dropLast.length = h.length - 1 := by simp
  have g : ∀ i, i < h.dropLast.length → h.dropLast.getD i 0 = h.getD i 0 := fun i hi => by
    rw [getD_get hi, getD_get (by omega), List.getElem_dropLast]
  have hlast : h.dropLast ++ [h.getLastD 0] = h := by
    rw [List.getLastD_eq_getLast?, List.getLast?_eq_some_getLast hne]
    exact List.dropLast_concat_getLast hne
  unfold drop
  by_cases e : p < h.dropLast.length
  · rw [if_pos e]
    have g2 : ∀ i, i ≠ p → (h.dropLast.set p (h.getLastD 0)).getD i 0 = h.dropLast.getD i 0 := fun i hi => by
      have hi' : ¬ p = i := fun q => hi q.symm
      simp only [List.getD_eq_getElem?_getD, List.getElem?_set, if_neg hi']
    have B : B1 f (h.dropLast.set p (h.getLastD 0)) p := by
      refine ⟨fun i h1 h2 h3 h4 => ?_, fun i h1 h2 h3 h4 => ?_⟩
      · rw [List.length_set] at h2
        rw [g2 _ h3, g2 _ h4, g _ h2, g _ (by omega)]
        exact H i h1 (by omega)
      · rw [List.length_set] at h2
        rw [g2 _ (by omega), g2 _ (by omega), g _ h2, g _ (by omega)]
        have a := H i h1 (by omega)
        have b := H p h4 (by omega)
        rw [h3] at a
        omega
    have e' : p < (h.dropLast.set p (h.getLastD 0)).length := by rw [List.length_set]; exact e
    obtain ⟨s1, s2⟩ := su_spec B e'
    have K := sd_spec (s := 0) _ p _ (Nat.le_refl _) s1 (Desc.zero _ _ (Nat.le_refl _)) (by rw [s2.length_eq]; exact e')
    refine ⟨K.1.hp, ((K.2.trans s2).cons _).trans ?_⟩
    -- h[p] :: init.set p last ~ init ++ [last]
    rw [← g p e, getD_get e]
    refine (set_perm e (h.getLastD 0)).trans ?_
    refine (List.perm_append_singleton (h.getLastD 0) h.dropLast).symm.trans ?_
    rw [hlast]
  · rw [if_neg e]
    have ep : p = h.length - 1 := by omega
    refine ⟨fun i h1 h2 => ?_, ?_⟩
    · rw [g _ h2, g _ (by omega)]
      exact H i h1 (by omega)
    · have : h.getD p 0 = h.getLastD 0 := by
        rw [List.getLastD_eq_getLast?, List.getLast?_eq_getElem?, List.getD_eq_getElem?_getD, ep]
      rw [this]
      refine (List.perm_append_singleton (h.getLastD 0) h.dropLast).symm.trans ?_
      rw [hlast]
def srt (ns : List Int) : List Int := ns.mergeSort (fun a b => decide (a ≤ b))
theorem srt_perm (ns : List Int) : (srt ns).Perm ns := List.mergeSort_perm _ _
theorem srt_sorted (ns : List Int) : (srt ns).Pairwise (· ≤ ·) := by
  have h := List.pairwise_mergeSort (le := fun a b : Int => decide (a ≤ b)) (fun a b c h1 h2 => by simp only [decide_eq_true_eq] at *; omega) (fun a b => by simp only [Bool.or_eq_true, decide_eq_true_eq]; omega) ns
  exact h.imp fun h => by simpa using h
theorem sorted_same {a b : List Int} (hp : a.Perm b) (ha : a.Pairwise (· ≤ ·)) (hb : b.Pairwise (· ≤ ·)) : a = b :=
  hp.eq_of_pairwise (fun x y _ _ h1 h2 => Int.le_antisymm h1 h2) ha hb
theorem srt_eq {a b : List Int} (hp : a.Perm b) : srt a = srt b :=
  sorted_same ((srt_perm a).trans (hp.trans (srt_perm b).symm)) (srt_sorted a) (srt_sorted b)
theorem srt_len (ns : List Int) : (srt ns).length = ns.length := (srt_perm ns).length_eq

/-- the newest w of the first k -/
def win (ns : List Int) (w k : Nat) : List Int := (ns.take k).drop (k - w)
theorem win_len {ns : List Int} {w k : Nat} (h : k ≤ ns.length) : (win ns w k).length = min k w := by
  rw [win, List.length_drop, List.length_take]; omega

def LoopIs (ns : List Int) (w : Int) (k : Nat) (low high : List Int) : Prop :=
  low.Perm (win ns w.toNat k) ∧ Hp id low ∧ high.Perm (win ns w.toNat k) ∧ Hp Int.neg high

theorem loop_start {ns : List Int} {w : Int} : LoopIs ns w 0 [] [] := by
  refine ⟨?_, fun i h1 h2 => ?_, ?_, fun i h1 h2 => ?_⟩
  · simp [win]
  · simp at h2
  · simp [win]
  · simp at h2
theorem loop_len {ns : List Int} {w : Int} {k : Nat} {low high : List Int} (L : LoopIs ns w k low high) (h : k ≤ ns.length) : low.length = min k w.toNat ∧ high.length = min k w.toNat :=
  ⟨by rw [L.1.length_eq, win_len h], by rw [L.2.2.1.length_eq, win_len h]⟩

theorem take_push {ns : List Int} {k : Nat} (h : k < ns.length) : ns.take (k + 1) = ns.take k ++ [ns.getD k 0] := by
  rw [List.take_add_one, List.getElem?_eq_getElem h, getD_get h]; rfl
theorem win_few {ns : List Int} {w k : Nat} (h : k < ns.length) (hw : k < w) : win ns w (k + 1) = win ns w k ++ [ns.getD k 0] := by
  rw [win, win, show k + 1 - w = 0 by omega, show k - w = 0 by omega, take_push h]; rfl
theorem win_more {ns : List Int} {w k : Nat} (h : k < ns.length) (hw : w ≤ k) (h0 : 0 < w) : ns.getD (k - w) 0 :: win ns w (k + 1) = win ns w k ++ [ns.getD k 0] := by
  have e1 : k + 1 - w = (k - w) + 1 := by omega
  have hl : (ns.take k).length = k := by rw [List.length_take]; omega
  rw [win, win, e1, take_push h, List.drop_append_of_le_length (by omega)]
  have e2 : (ns.take k).drop (k - w) = ns.getD (k - w) 0 :: (ns.take k).drop (k - w + 1) := by
    rw [List.drop_eq_getElem_cons (by omega : k - w < (ns.take k).length), List.getElem_take, getD_get (by omega)]
  rw [e2]; rfl

theorem push_win {f : Int → Int} {h : List Int} {ns : List Int} {w k : Nat} (H : Hp f h) (p : h.Perm (win ns w k)) : Hp f (push f h (ns.getD k 0)) ∧ (push f h (ns.getD k 0)).Perm (win ns w k ++ [ns.getD k 0]) :=
  ⟨(push_spec H).1, (push_spec H).2.trans (p.append_right _)⟩

theorem mem_old {f : Int → Int} {h : List Int} {ns : List Int} {w k : Nat} (h1 : k < ns.length) (hw : w ≤ k) (h0 : 0 < w) (H : Hp f h) (p : h.Perm (win ns w k)) : ns.getD (k - w) 0 ∈ push f h (ns.getD k 0) := by
  rw [(push_win H p).2.mem_iff, ← win_more h1 hw h0]
  exact .head _

theorem drop_win {f : Int → Int} {h : List Int} {ns : List Int} {w k j : Nat} (h1 : k < ns.length) (hw : w ≤ k) (h0 : 0 < w) (H : Hp f h) (p : h.Perm (win ns w k)) (hj : j < (push f h (ns.getD k 0)).length) (e : (push f h (ns.getD k 0)).getD j 0 = ns.getD (k - w) 0) :
    Hp f (drop f (push f h (ns.getD k 0)) j) ∧ (drop f (push f h (ns.getD k 0)) j).Perm (win ns w (k + 1)) := by
  obtain ⟨a, b⟩ := push_win H p
  obtain ⟨c, d⟩ := drop_spec a hj
  refine ⟨c, ?_⟩
  rw [e] at d
  have q := d.trans b
  rw [← win_more h1 hw h0] at q
  exact q.cons_inv

theorem turn_few {ns low high : List Int} {w : Int} {k : Nat} (L : LoopIs ns w k low high) (h : k < ns.length) (hw : (k : Int) < w) : LoopIs ns w (k + 1) (push id low (ns.getD k 0)) (push Int.neg high (ns.getD k 0)) := by
  obtain ⟨a, b, c, d⟩ := L
  have e := win_few (w := w.toNat) h (by omega)
  refine ⟨?_, (push_win b a).1, ?_, (push_win d c).1⟩
  · rw [e]; exact (push_win b a).2
  · rw [e]; exact (push_win d c).2
theorem turn_more {ns low high : List Int} {w : Int} {k i j : Nat} (L : LoopIs ns w k low high) (h : k < ns.length) (hw : w ≤ k) (h0 : 0 < w)
    (hi : i < (push id low (ns.getD k 0)).length) (ei : (push id low (ns.getD k 0)).getD i 0 = ns.getD (k - w.toNat) 0)
    (hj : j < (push Int.neg high (ns.getD k 0)).length) (ej : (push Int.neg high (ns.getD k 0)).getD j 0 = ns.getD (k - w.toNat) 0) :
    LoopIs ns w (k + 1) (drop id (push id low (ns.getD k 0)) i) (drop Int.neg (push Int.neg high (ns.getD k 0)) j) := by
  obtain ⟨a, b, c, d⟩ := L
  have A := drop_win h (by omega) (by omega) b a hi ei
  have C := drop_win h (by omega) (by omega) d c hj ej
  exact ⟨A.2, A.1, C.2, C.1⟩

section
variable {N low high pre : List Int} {W k x y : Int} {i j : Nat}
theorem old_low {r : List Int} (L : LoopIs N W pre.length low high) (e : k = 0 + (pre.length : Int)) (er : r = push id low (N.getD k.toNat 0)) (h : pre.length < N.length) (hw : W ≤ k) (h0 : 0 < W) : N.getD (k - W).toNat 0 ∈ r := by
  rw [er]
  have e1 : k.toNat = pre.length := by omega
  have e2 : (k - W).toNat = pre.length - W.toNat := by omega
  rw [e1, e2]
  exact mem_old h (by omega) (by omega) L.2.1 L.1
theorem old_high {r : List Int} (L : LoopIs N W pre.length low high) (e : k = 0 + (pre.length : Int)) (er : r = push Int.neg high (N.getD k.toNat 0)) (h : pre.length < N.length) (hw : W ≤ k) (h0 : 0 < W) : N.getD (k - W).toNat 0 ∈ r := by
  rw [er]
  have e1 : k.toNat = pre.length := by omega
  have e2 : (k - W).toNat = pre.length - W.toNat := by omega
  rw [e1, e2]
  exact mem_old h (by omega) (by omega) L.2.2.2 L.2.2.1

/-- what holds behind a turn: the lists at hand, the next number of items taken -/
def Next (N : List Int) (W : Int) (pre : List Int) (a b : List Int) : Prop := LoopIs N W (pre.length + 1) a b

theorem next_few {r r' : List Int} (L : LoopIs N W pre.length low high) (e : k = 0 + (pre.length : Int)) (e1 : r = push id low (N.getD k.toNat 0)) (e2 : r' = push Int.neg high (N.getD k.toNat 0)) (h : pre.length < N.length) (hw : ¬ W ≤ k) : Next N W pre r r' := by
  have e0 : k.toNat = pre.length := by omega
  rw [e1, e2, e0]
  exact turn_few L h (by omega)
theorem next_more {r r' q q' : List Int} (L : LoopIs N W pre.length low high) (e : k = 0 + (pre.length : Int)) (e1 : r = push id low (N.getD k.toNat 0)) (e2 : r' = push Int.neg high (N.getD k.toNat 0))
    (e3 : q = drop id r (i : Int).toNat) (e4 : q' = drop Int.neg r' (j : Int).toNat)
    (hi : i < r.length) (ei : r.getD i 0 = N.getD (k - W).toNat 0)
    (hj : j < r'.length) (ej : r'.getD j 0 = N.getD (k - W).toNat 0) (h : pre.length < N.length) (hw : W ≤ k) (h0 : 0 < W) :
    Next N W pre q q' := by
  have e0 : k.toNat = pre.length := by omega
  have e5 : (k - W).toNat = pre.length - W.toNat := by omega
  rw [e0] at e1 e2
  rw [e5] at ei ej
  rw [Int.toNat_natCast] at e3 e4
  rw [e3, e4]
  subst e1 e2
  exact turn_more L h (by omega) h0 hi ei hj ej

theorem slice_win (h : pre.length < N.length) (hx : x.toNat = pre.length + 1 - W.toNat) (hy : y.toNat = pre.length + 1) : (N.drop x.toNat).take (min y.toNat N.length - x.toNat) = win N W.toNat (pre.length + 1) := by
  rw [win, List.drop_take, hx, hy, Nat.min_eq_left (by omega)]
theorem next_len {a b : List Int} (n : Next N W pre a b) (h : pre.length < N.length) : a.length = min (pre.length + 1) W.toNat ∧ b.length = min (pre.length + 1) W.toNat := loop_len n (by omega)
theorem end_low {a b : List Int} {p : Int} (n : Next N W pre a b) (h1 : 0 < p) (h2 : p < a.length) : ¬ a.getD p.toNat 0 < a.getD ((p - 1) / 2).toNat 0 := by
  have q := n.2.1 p.toNat (by omega) (by omega)
  have e : ((p - 1) / 2).toNat = (p.toNat - 1) / 2 := by omega
  rw [e]
  simp only [id] at q
  omega
theorem end_high {a b : List Int} {p : Int} (n : Next N W pre a b) (h1 : 0 < p) (h2 : p < b.length) : ¬ b.getD ((p - 1) / 2).toNat 0 < b.getD p.toNat 0 := by
  have q := n.2.2.2 p.toNat (by omega) (by omega)
  have e : ((p - 1) / 2).toNat = (p.toNat - 1) / 2 := by omega
  rw [e]
  have q' : - b.getD ((p.toNat - 1) / 2) 0 ≤ - b.getD p.toNat 0 := q
  omega
theorem state_next {a b : List Int} (n : Next N W pre a b) (h : pre.length < N.length) (hW : W ≤ 100) : LoopIs N W (pre ++ [k]).length a b ∧ a.length ≤ 100 ∧ b.length ≤ 100 := by
  have e : (pre ++ [k]).length = pre.length + 1 := by simp
  obtain ⟨l1, l2⟩ := next_len n h
  rw [e]
  exact ⟨n, by omega, by omega⟩
theorem state_start : LoopIs N W ([] : List Int).length [] [] ∧ ([] : List Int).length ≤ 100 ∧ ([] : List Int).length ≤ 100 := ⟨loop_start, by decide, by decide⟩
end
end

/-! ## The head -/
set_option maxRecDepth 100000 in
set_option maxHeartbeats 8000000 in
open_top hd for PySem.Challenge.rw_dp0040_01

/-! ## The walks: one contract a def -/
section
theorem rsh1 {prog : Program} {w : World} {A : Around} {E : Value → Shared → Prop} {s : Shared} {a : Int} {t u : Tok} {Q : Value → Shared → Prop} (h : Q (.int (a / 2) s.toks) { s with toks := s.toks + 1 }) : wpAny (model prog w) A (binaryOp .RShift (.int a t) (.int 1 u)) Q E s := by
  refine rshift_int (by decide) ?_
  have e : a.fdiv (2 ^ Int.toNat 1) = a / 2 := by
    show a.fdiv 2 = a / 2
    exact Int.fdiv_eq_ediv_of_nonneg a (by decide)
  rw [e]
  exact h

/-- a call of f upon a list of ints turns it from ns into ns', all else stays -/
def Does (w : World) (p : Program) (loose : List Str) (mean : ExcName → Option Value) (mg mb : Str → Option Value) (r : Nat) (f : Addr) (tail : List Value) (ns ns' : List Int) : Prop :=
  ∀ (dp un : Nat) (gd : Option (List Code)) (cn : Str) (cs : Scope) (a : Addr) (ccd : Value) (cl : List (Str × Addr)) (outer : List Env) (A₀ : Around) (base h₀ : Heap) (L : Addr) (m : Str → Option Value) (l : Addr) (us : List Value) (c : Nat) (rest : List (Addr × Obj)) (s : Shared)
    (Q E : Value → Shared → Prop),
    Below A₀ base outer h₀ → Fr h₀ L s.heap m → (hd.heap_39 w.params).In h₀ → News h₀ L s.heap ((l, listOf us.toArray c) :: rest) → (∀ q ∈ rest, q.1 ≠ l) → Top p loose mean mg mb h₀ → cs.kind = .function → dp + r < recursionLimit → un + 8 * r < cLine →
    IntsAre us ns →
    (∀ us' c' h' tk', Fr h₀ L h' m → News h₀ L h' ((l, listOf us'.toArray c') :: rest) → IntsAre us' ns' → Q .none { s with heap := h', toks := tk' }) →
    wpAny (model PySem.Challenge.rw_dp0040_01.row.prog w) (ktrTop dp un gd cn cs L a ccd cl outer) (call (.ref f) (.ref l :: tail)) Q E s

def DownIs (f : Int → Int) (ns : List Int) (st p₀ x : Int) (heap : List Int) (pos : Int) : Prop :=
  heap.length = ns.length ∧ 0 ≤ st ∧ 0 ≤ pos ∧ pos < heap.length ∧ sd f st.toNat (heap.set pos.toNat x) pos.toNat = sd f st.toNat ns p₀.toNat

theorem set_getD_self (h : List Int) (i : Nat) : h.set i (h.getD i 0) = h := by
  apply List.ext_getElem?
  intro j
  by_cases e : i = j
  · subst e
    by_cases hl : i < h.length
    · simp [hl]
    · rw [List.getElem?_eq_none (by simp; omega), List.getElem?_eq_none (by omega)]
  · rw [List.getElem?_set_ne e]

theorem down_start {f : Int → Int} {ns : List Int} {st p₀ : Int} (h0 : 0 ≤ st) (h1 : 0 ≤ p₀) (h2 : p₀ < ns.length) : DownIs f ns st p₀ (ns.getD p₀.toNat 0) ns p₀ :=
  ⟨rfl, h0, h1, h2, by rw [set_getD_self]⟩

theorem sd_get {h : List Int} {i : Nat} {x : Int} (hi : i < h.length) : (h.set i x).getD i 0 = x := by simp [hi]
theorem sd_get_ne {h : List Int} {i j : Nat} {x : Int} (e : i ≠ j) : (h.set i x).getD j 0 = h.getD j 0 := by
  simp only [List.getD_eq_getElem?_getD, List.getElem?_set_ne e]

theorem down_turn {f : Int → Int} {ns heap : List Int} {st p₀ x pos : Int} (D : DownIs f ns st p₀ x heap pos) (h1 : st < pos) (h2 : f x < f (heap.getD ((pos - 1) / 2).toNat 0)) :
    DownIs f ns st p₀ x (heap.set pos.toNat (heap.getD ((pos - 1) / 2).toNat 0)) ((pos - 1) / 2) := by
  obtain ⟨a, b, c, d, e⟩ := D
  refine ⟨by rw [List.length_set]; exact a, b, by omega, by rw [List.length_set]; omega, ?_⟩
  have hq : ((pos - 1) / 2).toNat = (pos.toNat - 1) / 2 := by omega
  rw [hq] at h2 ⊢
  rw [sd, if_pos (by omega), sd_get (by omega), sd_get_ne (by omega), if_pos h2, List.set_set] at e
  exact e

theorem down_done {f : Int → Int} {ns heap : List Int} {st p₀ x pos : Int} (D : DownIs f ns st p₀ x heap pos) (h1 : ¬ st < pos) : heap.set pos.toNat x = sd f st.toNat ns p₀.toNat := by
  obtain ⟨a, b, c, d, e⟩ := D
  rw [sd, if_neg (by omega)] at e
  exact e
theorem down_break {f : Int → Int} {ns heap : List Int} {st p₀ x pos : Int} (D : DownIs f ns st p₀ x heap pos) (h1 : st < pos) (h2 : ¬ f x < f (heap.getD ((pos - 1) / 2).toNat 0)) : heap.set pos.toNat x = sd f st.toNat ns p₀.toNat := by
  obtain ⟨a, b, c, d, e⟩ := D
  have hq : ((pos - 1) / 2).toNat = (pos.toNat - 1) / 2 := by omega
  rw [hq] at h2
  rw [sd, if_pos (by omega), sd_get (by omega), sd_get_ne (by omega), if_neg h2] at e
  exact e

local macro_rules | `(tactic| walk_at "binaryOp RShift int int") => `(tactic| (k_here; with_reducible refine rsh1 ?_))
local macro_rules | `(tactic| k_all) => `(tactic| with_reducible assumption)

theorem ints_eq {us : List Value} {x y : List Int} (h : IntsAre us x) (e : x = y) : IntsAre us y := e ▸ h
theorem down_all {f : Int → Int} {ns heap : List Int} {st p₀ x pos : Int} (D : DownIs f ns st p₀ x heap pos) : DownIs f ns st p₀ x heap pos ∧ heap.length = ns.length ∧ 0 ≤ st ∧ 0 ≤ pos ∧ pos < heap.length := ⟨D, D.1, D.2.1, D.2.2.1, D.2.2.2.1⟩

set_option maxRecDepth 100000 in
set_option maxHeartbeats 8000000 in
theorem siftdown_does {w : World} {loose : List Str} {mean : ExcName → Option Value} {mg mb : Str → Option Value} {ns : List Int} {start pos : Int} {t1 t2 : Tok}
    (h0 : 0 ≤ start) (h1 : 0 ≤ pos) (h2 : pos < ns.length) (h3 : ns.length ≤ 1000) : Does w hd.view_39 loose mean mg mb 5 28 [.int start t1, .int pos t2] ns (sd id start.toNat ns pos.toNat) := by
  unfold Does
  k_fill
  intro dp un gd cn cs a ccd cl outer A₀ base h₀ L m l us c rest s Q E B F X N hne T hk hd hu hi hret
  k_with_none
  w_top off
  k_with "exec While Compare cons nil" => k_while_given ["heap!", "startpos", "newitem", "pos!"] (fun ns st x p₀ _ heap pos => DownIs id ns st p₀ x heap pos ∧ heap.length = ns.length ∧ 0 ≤ st ∧ 0 ≤ pos ∧ pos < heap.length) (fun _ _ _ _ _ _ pos => pos.toNat) "heap" "pos"
  k_with "state" => first | exact down_all (down_start h0 h1 h2) | exact down_all (down_turn (f := id) (by assumption) (by assumption) (by assumption))
  refine wpAny_call ?_
  w_strict (k_dflt ktr_enter; k_steps)
  all_goals first
    | exact hret _ _ _ _ (by assumption) (by assumption) (ints_eq (by assumption) (down_done (f := id) (by assumption) (by assumption)))
    | exact hret _ _ _ _ (by assumption) (by assumption) (ints_eq (by assumption) (down_break (f := id) (by assumption) (by assumption) (by assumption)))

set_option maxRecDepth 100000 in
set_option maxHeartbeats 8000000 in
theorem siftdown_max_does {w : World} {loose : List Str} {mean : ExcName → Option Value} {mg mb : Str → Option Value} {ns : List Int} {start pos : Int} {t1 t2 : Tok}
    (h0 : 0 ≤ start) (h1 : 0 ≤ pos) (h2 : pos < ns.length) (h3 : ns.length ≤ 1000) : Does w hd.view_39 loose mean mg mb 5 42 [.int start t1, .int pos t2] ns (sd Int.neg start.toNat ns pos.toNat) := by
  unfold Does
  k_fill
  intro dp un gd cn cs a ccd cl outer A₀ base h₀ L m l us c rest s Q E B F X N hne T hk hd hu hi hret
  k_with_none
  w_top off
  k_with "exec While Compare cons nil" => k_while_given ["heap!", "startpos", "newitem", "pos!"] (fun ns st x p₀ _ heap pos => DownIs Int.neg ns st p₀ x heap pos ∧ heap.length = ns.length ∧ 0 ≤ st ∧ 0 ≤ pos ∧ pos < heap.length) (fun _ _ _ _ _ _ pos => pos.toNat) "heap" "pos"
  k_with "state" => first | exact down_all (down_start h0 h1 h2) | exact down_all (down_turn (f := Int.neg) (by assumption) (by assumption) (Int.neg_lt_neg (by assumption)))
  refine wpAny_call ?_
  w_strict (k_dflt ktr_enter; k_steps)
  all_goals first
    | exact hret _ _ _ _ (by assumption) (by assumption) (ints_eq (by assumption) (down_done (f := Int.neg) (by assumption) (by assumption)))
    | exact hret _ _ _ _ (by assumption) (by assumption) (ints_eq (by assumption) (down_break (f := Int.neg) (by assumption) (by assumption) (fun q => absurd (Int.lt_of_neg_lt_neg q) (by assumption))))
end

section
theorem does_use {w : World} {p : Program} {loose : List Str} {mean : ExcName → Option Value} {mg mb : Str → Option Value} {r : Nat} {f : Addr} {tail : List Value} {ns ns' : List Int}
    {dp un : Nat} {gd : Option (List Code)} {cn : Str} {cs : Scope} {a : Addr} {ccd : Value} {cl : List (Str × Addr)} {outer : List Env} {A₀ : Around} {base h₀ : Heap} {L : Addr} {m : Str → Option Value} {l : Addr} {us : List Value} {c : Nat} {news : List (Addr × Obj)} {g : Obj → List (Addr × Obj)} {s : Shared}
    {Q E : Value → Shared → Prop} (D : Does w p loose mean mg mb r f tail ns ns')
    (B : Below A₀ base outer h₀) (F : Fr h₀ L s.heap m) (X : (hd.heap_39 w.params).In h₀) (N : News h₀ L s.heap news) (U : UpdF l (listOf us.toArray c) news g) (T : Top p loose mean mg mb h₀) (hk : cs.kind = .function) (hd : dp + r < recursionLimit) (hu : un + 8 * r < cLine)
    (hi : IntsAre us ns)
    (hret : ∀ us' c' h' tk', Fr h₀ L h' m → News h₀ L h' (g (listOf us'.toArray c')) → IntsAre us' ns' → Q .none { s with heap := h', toks := tk' }) :
    wpAny (model PySem.Challenge.rw_dp0040_01.row.prog w) (ktrTop dp un gd cn cs L a ccd cl outer) (call (.ref f) (.ref l :: tail)) Q E s := by
  obtain ⟨pre, post, rfl, hg, h1, h2⟩ := U.split
  refine D dp un gd cn cs a ccd cl outer A₀ base h₀ L m l us c (pre ++ post) s Q E B F X (fun q hq => N q ?_) ?_ T hk hd hu hi fun us' c' h' tk' F' N' hi' => hret us' c' h' tk' F' ?_ hi'
  · rcases List.mem_cons.mp hq with e | hq
    · rw [e]; exact List.mem_append_right _ (.head _)
    · rcases List.mem_append.mp hq with hq | hq
      · exact List.mem_append_left _ hq
      · exact List.mem_append_right _ (.tail _ hq)
  · intro q hq
    rcases List.mem_append.mp hq with hq | hq
    · exact h1 q hq
    · exact h2 q hq
  · rw [hg]
    intro q hq
    refine N' q ?_
    rcases List.mem_append.mp hq with hq | hq
    · exact .tail _ (List.mem_append_left _ hq)
    · rcases List.mem_cons.mp hq with e | hq
      · rw [e]; exact .head _
      · exact .tail _ (List.mem_append_right _ hq)

def UpIs (f : Int → Int) (ns : List Int) (p₀ x : Int) (heap : List Int) (pos : Int) : Prop :=
  heap.length = ns.length ∧ 0 ≤ pos ∧ pos < heap.length ∧ bub f (heap.set pos.toNat x) pos.toNat = bub f ns p₀.toNat

theorem up_start {f : Int → Int} {ns : List Int} {p₀ : Int} (h1 : 0 ≤ p₀) (h2 : p₀ < ns.length) : UpIs f ns p₀ (ns.getD p₀.toNat 0) ns p₀ :=
  ⟨rfl, h1, h2, by rw [set_getD_self]⟩
theorem up_all {f : Int → Int} {ns : List Int} {p₀ x : Int} {heap : List Int} {pos ch : Int} (D : UpIs f ns p₀ x heap pos) (e : ch = 2 * pos + 1) : UpIs f ns p₀ x heap pos ∧ heap.length = ns.length ∧ 0 ≤ pos ∧ pos < heap.length ∧ ch = 2 * pos + 1 := ⟨D, D.1, D.2.1, D.2.2.1, e⟩

theorem up_turn {f : Int → Int} {ns heap : List Int} {p₀ x pos c : Int} (D : UpIs f ns p₀ x heap pos) (h1 : 2 * pos + 1 < ns.length) (h0 : 0 ≤ c) (h2 : c.toNat = kid f (heap.set pos.toNat x) pos.toNat) :
    UpIs f ns p₀ x (heap.set pos.toNat (heap.getD c.toNat 0)) c := by
  obtain ⟨a, b, d, e⟩ := D
  have h1' : 2 * pos.toNat + 1 < (heap.set pos.toNat x).length := by rw [List.length_set]; omega
  have k1 := kid_lt (f := f) h1'
  have k2 := kid_gt f (heap.set pos.toNat x) pos.toNat
  rw [← h2, List.length_set] at k1
  rw [← h2] at k2
  refine ⟨by rw [List.length_set]; exact a, h0, by rw [List.length_set]; omega, ?_⟩
  rw [bub, if_pos h1', ← h2, sd_get (by omega), sd_get_ne (by omega), List.set_set] at e
  exact e
theorem up_right {f : Int → Int} {ns heap : List Int} {p₀ x pos ch : Int} (D : UpIs f ns p₀ x heap pos) (hc : ch = 2 * pos + 1) (h1 : ch < ns.length) (h2 : ch + 1 < ns.length) (h3 : ¬ f (heap.getD ch.toNat 0) < f (heap.getD (ch + 1).toNat 0)) :
    UpIs f ns p₀ x (heap.set pos.toNat (heap.getD (ch + 1).toNat 0)) (ch + 1) := by
  have hb := D.2.1
  have ha := D.1
  refine up_turn D (by omega) (by omega) ?_
  have e1 : ch.toNat = 2 * pos.toNat + 1 := by omega
  have e2 : (ch + 1).toNat = 2 * pos.toNat + 2 := by omega
  rw [e1, e2] at h3
  rw [kid, sd_get_ne (by omega), sd_get_ne (by omega), if_pos ⟨by rw [List.length_set]; omega, h3⟩, e2]
theorem up_left {f : Int → Int} {ns heap : List Int} {p₀ x pos ch : Int} (D : UpIs f ns p₀ x heap pos) (hc : ch = 2 * pos + 1) (h1 : ch < ns.length) (h3 : ¬ (ch + 1 < ns.length) ∨ f (heap.getD ch.toNat 0) < f (heap.getD (ch + 1).toNat 0)) :
    UpIs f ns p₀ x (heap.set pos.toNat (heap.getD ch.toNat 0)) ch := by
  have hb := D.2.1
  have ha := D.1
  refine up_turn D (by omega) (by omega) ?_
  have e1 : ch.toNat = 2 * pos.toNat + 1 := by omega
  have e2 : (ch + 1).toNat = 2 * pos.toNat + 2 := by omega
  rw [e1, e2] at h3
  rw [kid, sd_get_ne (by omega), sd_get_ne (by omega), if_neg, e1]
  rintro ⟨q1, q2⟩
  rw [List.length_set] at q1
  rcases h3 with h3 | h3
  · omega
  · exact q2 h3
theorem up_done {f : Int → Int} {ns heap : List Int} {p₀ x pos ch : Int} (D : UpIs f ns p₀ x heap pos) (hc : ch = 2 * pos + 1) (h1 : ¬ ch < ns.length) : sd f p₀.toNat (heap.set pos.toNat x) pos.toNat = su f ns p₀.toNat := by
  obtain ⟨a, b, d, e⟩ := D
  rw [bub, if_neg (by rw [List.length_set]; omega)] at e
  rw [su, ← e]

local macro_rules | `(tactic| k_all) => `(tactic| with_reducible assumption)

local macro_rules | `(tactic| walk_at "call ref") => `(tactic| (k_here; (with_reducible show wpAny _ _ (call (Value.ref 28) [Value.ref _, Value.int _ _, Value.int _ _]) _ _ _); k_dflt (refine' does_use (siftdown_does ?a1 ?a2 ?a3 ?a4) ?k1 ?k2 ?k3 ?k4 ?k5 ?k6 ?k7 ?k8 ?k9 ?kA ?_; (case k1 => k_asm); (case k2 => k_asm); (case k3 => k_asm); (case k4 => k_asm); (case k5 => k_updF); (case k6 => k_asm); (case k7 => first | exact rfl | assumption); (case kA => assumption); (case a1 => omega); (case a2 => omega); (case a3 => ((try simp only [List.length_set]); omega)); (case a4 => ((try simp only [List.length_set]); omega)); (case k8 => ktr_room); (case k9 => ktr_units); k_whole); intro us9 c9 h9 tk9 F9 N9 I9; (try dsimp only at N9); (try k_fold)))
local macro_rules | `(tactic| walk_at "call ref") => `(tactic| (k_here; (with_reducible show wpAny _ _ (call (Value.ref 42) [Value.ref _, Value.int _ _, Value.int _ _]) _ _ _); k_dflt (refine' does_use (siftdown_max_does ?a1 ?a2 ?a3 ?a4) ?k1 ?k2 ?k3 ?k4 ?k5 ?k6 ?k7 ?k8 ?k9 ?kA ?_; (case k1 => k_asm); (case k2 => k_asm); (case k3 => k_asm); (case k4 => k_asm); (case k5 => k_updF); (case k6 => k_asm); (case k7 => first | exact rfl | assumption); (case kA => assumption); (case a1 => omega); (case a2 => omega); (case a3 => ((try simp only [List.length_set]); omega)); (case a4 => ((try simp only [List.length_set]); omega)); (case k8 => ktr_room); (case k9 => ktr_units); k_whole); intro us9 c9 h9 tk9 F9 N9 I9; (try dsimp only at N9); (try k_fold)))

set_option maxRecDepth 100000 in
set_option maxHeartbeats 8000000 in
theorem siftup_does {w : World} {loose : List Str} {mean : ExcName → Option Value} {mg mb : Str → Option Value} {ns : List Int} {pos : Int} {t1 : Tok}
    (h1 : 0 ≤ pos) (h2 : pos < ns.length) (h3 : ns.length ≤ 1000) : Does w hd.view_39 loose mean mg mb 10 35 [.int pos t1] ns (su id ns pos.toNat) := by
  unfold Does
  k_fill
  intro dp un gd cn cs a ccd cl outer A₀ base h₀ L m l us c rest s Q E B F X N hne T hk hd hu hi hret
  k_with_none
  w_top off
  k_with "exec While Compare cons nil" => k_while_given ["heap!", "newitem", "pos!"] (fun ns x p₀ _ heap pos ch => UpIs id ns p₀ x heap pos ∧ heap.length = ns.length ∧ 0 ≤ pos ∧ pos < heap.length ∧ ch = 2 * pos + 1) (fun ns _ _ _ _ pos _ => ns.length - pos.toNat) "heap" "pos" "childpos"
  k_with "state" => first | exact up_all (up_start h1 h2) rfl | exact up_all (up_right (f := id) (by assumption) (by assumption) (by assumption) (by assumption) (by assumption)) rfl | exact up_all (up_left (f := id) (by assumption) (by assumption) (by assumption) (Or.inl (by assumption))) rfl | exact up_all (up_left (f := id) (by assumption) (by assumption) (by assumption) (Or.inr (by assumption))) rfl
  refine wpAny_call ?_
  w_strict (k_dflt ktr_enter; k_steps)
  all_goals exact hret _ _ _ _ (by assumption) (by assumption) (ints_eq (by assumption) (up_done (f := id) (by assumption) (by assumption) (by assumption)))
set_option maxRecDepth 100000 in
set_option maxHeartbeats 8000000 in
theorem siftup_max_does {w : World} {loose : List Str} {mean : ExcName → Option Value} {mg mb : Str → Option Value} {ns : List Int} {pos : Int} {t1 : Tok}
    (h1 : 0 ≤ pos) (h2 : pos < ns.length) (h3 : ns.length ≤ 1000) : Does w hd.view_39 loose mean mg mb 10 49 [.int pos t1] ns (su Int.neg ns pos.toNat) := by
  unfold Does
  k_fill
  intro dp un gd cn cs a ccd cl outer A₀ base h₀ L m l us c rest s Q E B F X N hne T hk hd hu hi hret
  k_with_none
  w_top off
  k_with "exec While Compare cons nil" => k_while_given ["heap!", "newitem", "pos!"] (fun ns x p₀ _ heap pos ch => UpIs Int.neg ns p₀ x heap pos ∧ heap.length = ns.length ∧ 0 ≤ pos ∧ pos < heap.length ∧ ch = 2 * pos + 1) (fun ns _ _ _ _ pos _ => ns.length - pos.toNat) "heap" "pos" "childpos"
  k_with "state" => first | exact up_all (up_start h1 h2) rfl | exact up_all (up_right (f := Int.neg) (by assumption) (by assumption) (by assumption) (by assumption) (fun q => absurd (Int.lt_of_neg_lt_neg q) (by assumption))) rfl | exact up_all (up_left (f := Int.neg) (by assumption) (by assumption) (by assumption) (Or.inl (by assumption))) rfl | exact up_all (up_left (f := Int.neg) (by assumption) (by assumption) (by assumption) (Or.inr (Int.neg_lt_neg (by assumption)))) rfl
  refine wpAny_call ?_
  w_strict (k_dflt ktr_enter; k_steps)
  all_goals exact hret _ _ _ _ (by assumption) (by assumption) (ints_eq (by assumption) (up_done (f := Int.neg) (by assumption) (by assumption) (by assumption)))
end

section
theorem ints_push {us : List Value} {ns : List Int} {x : Int} {t : Tok} (h : IntsAre us ns) : IntsAre (us ++ [.int x t]) (ns ++ [x]) := h.append (.cons x t .nil)

local macro_rules | `(tactic| k_all) => `(tactic| with_reducible assumption)
local macro_rules | `(tactic| walk_at "call ref") => `(tactic| (k_here; (with_reducible show wpAny _ _ (call (Value.ref 28) [Value.ref _, Value.int _ _, Value.int _ _]) _ _ _); k_dflt (refine' does_use (siftdown_does ?a1 ?a2 ?a3 ?a4) ?k1 ?k2 ?k3 ?k4 ?k5 ?k6 ?k7 ?k8 ?k9 ?kA ?_; (case k1 => k_asm); (case k2 => k_asm); (case k3 => k_asm); (case k4 => k_asm); (case k5 => k_updF); (case k6 => k_asm); (case k7 => first | exact rfl | assumption); (case kA => first | with_reducible assumption | with_reducible exact ints_push (by with_reducible assumption)); (case a1 => omega); (case a2 => omega); (case a3 => (first | omega | (simp only [List.length_set, List.length_append, List.length_cons, List.length_nil]; omega))); (case a4 => (first | omega | (simp only [List.length_set, List.length_append, List.length_cons, List.length_nil]; omega))); (case k8 => ktr_room); (case k9 => ktr_units); k_whole); intro us9 c9 h9 tk9 F9 N9 I9; (try dsimp only at N9); (try k_fold)))
local macro_rules | `(tactic| walk_at "call ref") => `(tactic| (k_here; (with_reducible show wpAny _ _ (call (Value.ref 42) [Value.ref _, Value.int _ _, Value.int _ _]) _ _ _); k_dflt (refine' does_use (siftdown_max_does ?a1 ?a2 ?a3 ?a4) ?k1 ?k2 ?k3 ?k4 ?k5 ?k6 ?k7 ?k8 ?k9 ?kA ?_; (case k1 => k_asm); (case k2 => k_asm); (case k3 => k_asm); (case k4 => k_asm); (case k5 => k_updF); (case k6 => k_asm); (case k7 => first | exact rfl | assumption); (case kA => first | with_reducible assumption | with_reducible exact ints_push (by with_reducible assumption)); (case a1 => omega); (case a2 => omega); (case a3 => (first | omega | (simp only [List.length_set, List.length_append, List.length_cons, List.length_nil]; omega))); (case a4 => (first | omega | (simp only [List.length_set, List.length_append, List.length_cons, List.length_nil]; omega))); (case k8 => ktr_room); (case k9 => ktr_units); k_whole); intro us9 c9 h9 tk9 F9 N9 I9; (try dsimp only at N9); (try k_fold)))
local macro_rules | `(tactic| walk_at "call ref") => `(tactic| (k_here; (with_reducible show wpAny _ _ (call (Value.ref 35) [Value.ref _, Value.int _ _]) _ _ _); k_dflt (refine' does_use (siftup_does ?a2 ?a3 ?a4) ?k1 ?k2 ?k3 ?k4 ?k5 ?k6 ?k7 ?k8 ?k9 ?kA ?_; (case k1 => k_asm); (case k2 => k_asm); (case k3 => k_asm); (case k4 => k_asm); (case k5 => k_updF); (case k6 => k_asm); (case k7 => first | exact rfl | assumption); (case kA => first | with_reducible assumption | with_reducible exact ints_push (by with_reducible assumption)); (case a2 => omega); (case a3 => (first | omega | (simp only [List.length_set, List.length_append, List.length_cons, List.length_nil]; omega))); (case a4 => (first | omega | (simp only [List.length_set, List.length_append, List.length_cons, List.length_nil]; omega))); (case k8 => ktr_room); (case k9 => ktr_units); k_whole); intro us9 c9 h9 tk9 F9 N9 I9; (try dsimp only at N9); (try k_fold)))
local macro_rules | `(tactic| walk_at "call ref") => `(tactic| (k_here; (with_reducible show wpAny _ _ (call (Value.ref 49) [Value.ref _, Value.int _ _]) _ _ _); k_dflt (refine' does_use (siftup_max_does ?a2 ?a3 ?a4) ?k1 ?k2 ?k3 ?k4 ?k5 ?k6 ?k7 ?k8 ?k9 ?kA ?_; (case k1 => k_asm); (case k2 => k_asm); (case k3 => k_asm); (case k4 => k_asm); (case k5 => k_updF); (case k6 => k_asm); (case k7 => first | exact rfl | assumption); (case kA => first | with_reducible assumption | with_reducible exact ints_push (by with_reducible assumption)); (case a2 => omega); (case a3 => (first | omega | (simp only [List.length_set, List.length_append, List.length_cons, List.length_nil]; omega))); (case a4 => (first | omega | (simp only [List.length_set, List.length_append, List.length_cons, List.length_nil]; omega))); (case k8 => ktr_room); (case k9 => ktr_units); k_whole); intro us9 c9 h9 tk9 F9 N9 I9; (try dsimp only at N9); (try k_fold)))

theorem len_my {prog : Program} {w : World} {A : Around} {E : Value → Shared → Prop} {s : Shared} {h₀ : Heap} {L l : Addr} {news : List (Addr × Obj)} {us : List Value} {ns : List Int} {c : Nat} {Q : Value → Shared → Prop} (N : News h₀ L s.heap news) (hm : (l, listOf us.toArray c) ∈ news) (hi : IntsAre us ns) (hfit : ns.length ≤ 1000)
    (h : Q (.int (ns.length : Int) (s.toks + 1)) { s with toks := s.toks + 1 + 1 }) : wpAny (model prog w) A (call (.builtin "len") [.ref l]) Q E s := kst_len N hm hi.length (by omega) h

local macro_rules | `(tactic| walk_at "call builtin:len") => `(tactic| (k_here; (with_reducible show wpAny _ _ (call (Value.builtin "len") [Value.ref _]) _ _ _); k_dflt (refine' len_my ?k1 ?k2 ?k3 ?k4 ?_; (case k1 => k_asm); (case k2 => k_mem); (case k3 => with_reducible assumption); (case k4 => omega)); k_whole))

section
variable {prog : Program} {w : World} {A : Around} {E : Value → Shared → Prop} {s : Shared} {h₀ : Heap} {L l : Addr} {m : Str → Option Value} {news : List (Addr × Obj)} {us : List Value} {ns : List Int} {c : Nat}
theorem append_my {news' : List (Addr × Obj)} {x : Int} {t : Tok} {Q : Value → Shared → Prop} (F : Fr h₀ L s.heap m) (N : News h₀ L s.heap news) (U : Upd l (listOf us.toArray c) (listOf (us ++ [Value.int x t]).toArray (c + 1)) news news') (hi : IntsAre us ns) (hz : ns.length ≤ 900)
    (h : ∀ h', Fr h₀ L h' m → News h₀ L h' news' → IntsAre (us ++ [Value.int x t]) (ns ++ [x]) → (ns ++ [x]).length = ns.length + 1 → Q .none { s with heap := h' }) : wpAny (model prog w) A (call (.builtin "list.append") [.ref l, .int x t]) Q E s :=
  append_K (its := us.toArray) (n := c) F N (by rw [List.push_toArray]; exact U) (fun h' F' N' => h h' F' N' (ints_push hi) (by simp)) (by rw [sizeLine_eq, List.size_toArray, hi.length]; omega)
end
local macro_rules | `(tactic| walk_at "call builtin:list.append") => `(tactic| (k_here; (with_reducible show wpAny _ _ (call (Value.builtin _) [Value.ref _, Value.int _ _]) _ _ _); k_dflt (refine' append_my ?k1 ?k2 ?k3 ?k4 ?k5 ?_; (case k1 => k_asm); (case k2 => k_asm); (case k3 => k_upd); (case k4 => with_reducible assumption); (case k5 => omega)); k_whole; intro h9 F9 N9 I9 L9))

theorem drop_yes {f : Int → Int} {ns : List Int} {pos : Int} (h1 : 0 ≤ pos) (h : pos < ns.dropLast.length) : sd f (Int.toNat 0) (su f (ns.dropLast.set pos.toNat (ns.getLastD 0)) pos.toNat) pos.toNat = drop f ns pos.toNat := by
  rw [drop, if_pos (by omega)]; rfl
theorem drop_no {f : Int → Int} {ns : List Int} {pos : Int} (h1 : 0 ≤ pos) (h : ¬ pos < ns.dropLast.length) : ns.dropLast = drop f ns pos.toNat := by
  rw [drop, if_neg (by omega)]
theorem push_is {f : Int → Int} {ns : List Int} {x k : Int} (h : k = ns.length) : sd f (Int.toNat 0) (ns ++ [x]) k.toNat = push f ns x := by
  have e : k.toNat = ns.length := by omega
  rw [e, push]; rfl

set_option maxRecDepth 100000 in
set_option maxHeartbeats 8000000 in
theorem law_drop_does {w : World} {loose : List Str} {mean : ExcName → Option Value} {mg mb : Str → Option Value} {ns : List Int} {pos : Int} {t1 : Tok}
    (h1 : 0 ≤ pos) (h2 : pos < ns.length) (h3 : ns.length ≤ 1000) : Does w hd.view_39 loose mean mg mb 20 56 [.int pos t1, .ref 35, .ref 28] ns (drop id ns pos.toNat) := by
  unfold Does
  k_fill
  intro dp un gd cn cs a ccd cl outer A₀ base h₀ L m l us c rest s Q E B F X N hne T hk hd hu hi hret
  k_with_none
  w_top off
  have hlen := IntsAre.length hi
  have hdl : ns.dropLast.length = ns.length - 1 := List.length_dropLast
  have hsu : (su id (ns.dropLast.set pos.toNat (ns.getLastD 0)) pos.toNat).length = ns.length - 1 := by rw [su_len, List.length_set, hdl]
  refine wpAny_call ?_
  w_strict (k_dflt ktr_enter; k_steps)
  all_goals first
    | exact hret _ _ _ _ (by assumption) (by assumption) (ints_eq (by assumption) (drop_yes (f := id) h1 (by assumption)))
    | exact hret _ _ _ _ (by assumption) (by assumption) (ints_eq (by assumption) (drop_no (f := id) h1 (by assumption)))
set_option maxRecDepth 100000 in
set_option maxHeartbeats 8000000 in
theorem law_drop_max_does {w : World} {loose : List Str} {mean : ExcName → Option Value} {mg mb : Str → Option Value} {ns : List Int} {pos : Int} {t1 : Tok}
    (h1 : 0 ≤ pos) (h2 : pos < ns.length) (h3 : ns.length ≤ 1000) : Does w hd.view_39 loose mean mg mb 20 56 [.int pos t1, .ref 49, .ref 42] ns (drop Int.neg ns pos.toNat) := by
  unfold Does
  k_fill
  intro dp un gd cn cs a ccd cl outer A₀ base h₀ L m l us c rest s Q E B F X N hne T hk hd hu hi hret
  k_with_none
  w_top off
  have hlen := IntsAre.length hi
  have hdl : ns.dropLast.length = ns.length - 1 := List.length_dropLast
  have hsu : (su Int.neg (ns.dropLast.set pos.toNat (ns.getLastD 0)) pos.toNat).length = ns.length - 1 := by rw [su_len, List.length_set, hdl]
  refine wpAny_call ?_
  w_strict (k_dflt ktr_enter; k_steps)
  all_goals first
    | exact hret _ _ _ _ (by assumption) (by assumption) (ints_eq (by assumption) (drop_yes (f := Int.neg) h1 (by assumption)))
    | exact hret _ _ _ _ (by assumption) (by assumption) (ints_eq (by assumption) (drop_no (f := Int.neg) h1 (by assumption)))

set_option maxRecDepth 100000 in
set_option maxHeartbeats 8000000 in
theorem heappush_does {w : World} {loose : List Str} {mean : ExcName → Option Value} {mg mb : Str → Option Value} {ns : List Int} {x : Int} {t1 : Tok}
    (h3 : ns.length ≤ 900) : Does w hd.view_39 loose mean mg mb 20 21 [.int x t1] ns (push id ns x) := by
  unfold Does
  k_fill
  intro dp un gd cn cs a ccd cl outer A₀ base h₀ L m l us c rest s Q E B F X N hne T hk hd hu hi hret
  k_with_none
  w_top off
  have hlen := IntsAre.length hi
  have hap : (ns ++ [x]).length = ns.length + 1 := by simp
  refine wpAny_call ?_
  w_strict (k_dflt ktr_enter; k_steps)
  all_goals exact hret _ _ _ _ (by assumption) (by assumption) (ints_eq (by assumption) (push_is (f := id) (by omega)))
end

/-! ## The law's own walk -/
section
theorem sub_cons {α : Type} {x : α} {l l' : List α} (h : ∀ p ∈ l, p ∈ l') : ∀ p ∈ x :: l, p ∈ x :: l' := fun p hp => by
  rcases List.mem_cons.mp hp with e | hp
  · exact e ▸ .head _
  · exact .tail _ (h p hp)
theorem sub_tail {α : Type} {x : α} {l l' : List α} (h : ∀ p ∈ l, p ∈ l') : ∀ p ∈ l, p ∈ x :: l' := fun p hp => .tail _ (h p hp)
theorem sub_left {α : Type} {l l' : List α} : ∀ p ∈ l, p ∈ l ++ l' := fun _ hp => List.mem_append_left _ hp
theorem sub_right {α : Type} {l l' : List α} : ∀ p ∈ l', p ∈ l ++ l' := fun _ hp => List.mem_append_right _ hp
theorem sub_refl {α : Type} {l : List α} : ∀ p ∈ l, p ∈ l := fun _ hp => hp
theorem sub_three {α : Type} {x y z : α} {l : List α} (h1 : x ∈ l) (h2 : y ∈ l) (h3 : z ∈ l) : ∀ p ∈ [x, y, z], p ∈ l := fun p hp => by
  simp only [List.mem_cons, List.not_mem_nil, or_false] at hp
  rcases hp with rfl | rfl | rfl
  · exact h1
  · exact h2
  · exact h3

theorem does_use2 {w : World} {p : Program} {loose : List Str} {mean : ExcName → Option Value} {mg mb : Str → Option Value} {r : Nat} {f : Addr} {tail : List Value} {ns ns' : List Int} {k : Nat}
    {dp un : Nat} {gd : Option (List Code)} {cn : Str} {cs : Scope} {a : Addr} {ccd : Value} {cl : List (Str × Addr)} {outer : List Env} {A₀ : Around} {base h₀ : Heap} {L : Addr} {m : Str → Option Value} {l : Addr} {us : List Value} {c : Nat} {news : List (Addr × Obj)} {g : Obj → List (Addr × Obj)} {s : Shared}
    {Q E : Value → Shared → Prop} (D : Does w p loose mean mg mb r f tail ns ns') (hl : ns'.length = k)
    (B : Below A₀ base outer h₀) (F : Fr h₀ L s.heap m) (X : (hd.heap_39 w.params).In h₀) (N : News h₀ L s.heap news) (U : UpdF l (listOf us.toArray c) news g) (T : Top p loose mean mg mb h₀) (hk : cs.kind = .function) (hd : dp + r < recursionLimit) (hu : un + 8 * r < cLine)
    (hi : IntsAre us ns)
    (hret : ∀ us' c' h' tk', Fr h₀ L h' m → News h₀ L h' (g (listOf us'.toArray c')) → ∀ r', IntsAre us' r' → r' = ns' → r'.length = k → Q .none { s with heap := h', toks := tk' }) :
    wpAny (model PySem.Challenge.rw_dp0040_01.row.prog w) (ktrTop dp un gd cn cs L a ccd cl outer) (call (.ref f) (.ref l :: tail)) Q E s :=
  does_use D B F X N U T hk hd hu hi fun us' c' h' tk' F' N' I' => hret us' c' h' tk' F' N' ns' I' rfl hl

theorem push_max_does {w : World} {loose : List Str} {mean : ExcName → Option Value} {mg mb : Str → Option Value} {ns : List Int} {x k : Int} {t1 t2 : Tok}
    (h : k = ns.length) (h3 : ns.length ≤ 900) : Does w hd.view_39 loose mean mg mb 5 42 [.int 0 t1, .int k t2] (ns ++ [x]) (push Int.neg ns x) := by
  have D := siftdown_max_does (w := w) (loose := loose) (mean := mean) (mg := mg) (mb := mb) (ns := ns ++ [x]) (start := 0) (pos := k) (t1 := t1) (t2 := t2) (by omega) (by omega) (by simp; omega) (by simp; omega)
  rw [push_is h] at D
  exact D

section
variable {prog : Program} {w : World} {A : Around} {E : Value → Shared → Prop} {s : Shared} {h₀ : Heap} {L l : Addr} {m : Str → Option Value} {news : List (Addr × Obj)} {us : List Value} {ns : List Int} {c : Nat}
theorem index_my {k : Int} {t : Tok} {Q : Value → Shared → Prop} (N : News h₀ L s.heap news) (hm : (l, listOf us.toArray c) ∈ news) (hi : IntsAre us ns) (hk : k ∈ ns) (hz : ns.length ≤ 1000)
    (h : ∀ j : Nat, j < ns.length → ns.getD j 0 = k → Q (.int (j : Int) s.toks) { s with toks := s.toks + 1 }) : wpAny (model prog w) A (call (.builtin "list.index") [.ref l, .int k t]) Q E s := by
  have hl := hi.length
  have hj : ns.idxOf k < ns.length := List.idxOf_lt_length_iff.mpr hk
  have ho : s.heap.get? l = some (listOf us.toArray c) := (N _ hm).1
  have hq : ns.getD (ns.idxOf k) 0 = k := by rw [getD_get hj]; exact List.getElem_idxOf hj
  refine call_meets PySem.F.slot_list_index ⟨_, ho, rfl⟩ PySem.F.entry_list_index (PySem.F.args_list_index_2 _ _)
    (PySem.SeqAt.list_indexAt l us.toArray c none #[] (.int k t) (isInt k) (ns.idxOf k) (by simpa [hl] using hj) (by omega) ?_ ?_) ⟨ho, fun y hy => (eq_isInt k t hi y (by simpa using hy)).at _ _, h _ hj hq⟩
  · show isInt k us[ns.idxOf k] = true
    rw [isInt_at k hi _ (by omega) hj]
    simpa using List.getElem_idxOf hj
  · intro j hjs hlt
    show isInt k us[j] = false
    rw [isInt_at k hi j (by simpa using hjs) (by omega)]
    exact ne_of_lt_idxOf hlt _

theorem sorted_my {Q : Value → Shared → Prop} (F : Fr h₀ L s.heap m) (N : News h₀ L s.heap news) (hm : (l, listOf us.toArray c) ∈ news) (hi : IntsAre us ns) (h64 : ns.length < 64)
    (h : ∀ D us' c' h', Fr h₀ L h' m → News h₀ L h' ((D, listOf us'.toArray c') :: news) → (∀ q ∈ news, q.1 < D) → IntsAre us' (srt ns) → (srt ns).length = ns.length → Q (.ref D) { s with heap := h' }) :
    wpAny (model prog w) A (call (.builtin "sorted") [.ref l]) Q E s :=
  kso_sorted F N ⟨_, (N _ hm).1, rfl, c, rfl⟩ hi h64 fun D vs' ns' c' h' F' N' l1 i' _ p' o' _ => by
    have e : ns' = srt ns := sorted_same (p'.trans (srt_perm ns).symm) o' (srt_sorted ns)
    subst e
    exact h D vs' c' h' F' N' l1 i' (srt_len ns)

theorem ne_my {l2 : Addr} {us2 : List Value} {ns2 : List Int} {c2 : Nat} {Q : Value → Shared → Prop} (N : News h₀ L s.heap news) (hm : (l, listOf us.toArray c) ∈ news) (hm2 : (l2, listOf us2.toArray c2) ∈ news) (hi : IntsAre us ns) (hi2 : IntsAre us2 ns2) (hu : A.units + 64 < cLine) (e : ns = ns2) (h : Q (.bool false) s) :
    wpAny (model prog w) A (compareOp .NotEq (.ref l) (.ref l2)) Q E s := by
  refine ke_ne_ints ⟨_, (N _ hm).1, rfl, c, rfl⟩ ⟨_, (N _ hm2).1, rfl, c2, rfl⟩ hi hi2 hu ?_
  rw [decide_eq_true e]
  exact h

theorem fdiv2 {a : Int} {t u : Tok} {Q : Value → Shared → Prop} (h : Q (.int (a / 2) s.toks) { s with toks := s.toks + 1 }) : wpAny (model prog w) A (binaryOp .FloorDiv (.int a t) (.int 2 u)) Q E s := by
  refine floordiv_int (by decide) ?_ (Or.inl (PyProof.noPylong_small (by decide)))
  rw [Int.fdiv_eq_ediv_of_nonneg a (by decide)]
  exact h
theorem mod40 {a : Int} {t u : Tok} {Q : Value → Shared → Prop} (h : ∀ r : Int, 0 ≤ r → r < 40 → Q (.int r s.toks) { s with toks := s.toks + 1 }) : wpAny (model prog w) A (binaryOp .Mod (.int a t) (.int 40 u)) Q E s := by
  refine mod_int' (by decide) ?_
  rw [Int.fmod_eq_emod_of_nonneg a (by decide)]
  exact h _ (by omega) (by omega)
theorem add_my {a b : Addr} {vs ws : List Value} {ms : List Int} {Q : Value → Shared → Prop} (F : Fr h₀ L s.heap m) (N : News h₀ L s.heap news) (ha : s.heap.IsList a vs.toArray) (hb : s.heap.IsList b ws.toArray) (hi : IntsAre vs ns) (hj : IntsAre ws ms) (hm : ms.length = 9) (hn : ns.length ≤ 63)
    (h : ∀ D us h', Fr h₀ L h' m → News h₀ L h' [(D, listOf (List.toArray us) 0)] → ∀ r : List Int, IntsAre us r → r.length = ns.length + 9 → Q (.ref D) { s with heap := h' }) : wpAny (model prog w) A (binaryOp .Add (.ref a) (.ref b)) Q E s :=
  kmk_add_ints F N ha hb hi hj (fun D us h' F' N' _ I' => h D us h' F' (kst_newsOf N' fun q hq => by rw [List.mem_singleton.mp hq]; exact .head _) _ I' (by rw [List.length_append, hm])) (by rw [sizeLine_eq]; omega)
theorem sorted_win {N : List Int} {W : Int} {pre a b : List Int} {Q : Value → Shared → Prop} (F : Fr h₀ L s.heap m) (Nw : News h₀ L s.heap news) (hm : (l, listOf us.toArray c) ∈ news) (hi : IntsAre us ns) (hw : ns = win N W.toNat (pre.length + 1)) (n : Next N W pre a b) (hp : pre.length < N.length) (h64 : W < 64)
    (h : ∀ D us' c' h', Fr h₀ L h' m → News h₀ L h' ((D, listOf us'.toArray c') :: news) → (∀ q ∈ news, q.1 < D) → ∀ r : List Int, IntsAre us' r → srt a = r → srt b = r → a.length = r.length → b.length = r.length → r.length < 64 → Q (.ref D) { s with heap := h' }) :
    wpAny (model prog w) A (call (.builtin "sorted") [.ref l]) Q E s := by
  obtain ⟨l1, l2⟩ := next_len n hp
  have l3 : (win N W.toNat (pre.length + 1)).length = min (pre.length + 1) W.toNat := win_len (by omega)
  subst hw
  refine sorted_my F Nw hm hi (by omega) fun D us' c' h' F' N' lt I' e' => h D us' c' h' F' N' lt _ I' (srt_eq n.1) (srt_eq n.2.2.1) (by omega) (by omega) (by omega)
end

local macro_rules | `(tactic| walk_at "call builtin:len") => `(tactic| (k_here; (with_reducible show wpAny _ _ (call (Value.builtin "len") [Value.ref _]) _ _ _); k_dflt (refine' len_my ?k1 ?k2 ?k3 ?k4 ?_; (case k1 => k_asm); (case k2 => k_mem); (case k3 => with_reducible assumption); (case k4 => omega)); k_whole))
local macro_rules | `(tactic| walk_at "call ref") => `(tactic| (k_here; (with_reducible show wpAny _ _ (call (Value.ref 21) [Value.ref _, Value.int _ _]) _ _ _); k_dflt (refine' does_use2 (heappush_does ?a1) (push_len _ _ _) ?k1 ?k2 ?k3 ?k4 ?k5 ?k6 ?k7 ?k8 ?k9 ?kA ?_; (case k1 => k_asm); (case k2 => k_asm); (case k3 => k_asm); (case k4 => k_asm); (case k5 => k_updF); (case k6 => k_asm); (case k7 => first | exact rfl | assumption); (case kA => first | with_reducible assumption | with_reducible exact ints_push (by with_reducible assumption)); (case a1 => omega); (case k8 => ktr_room); (case k9 => ktr_units); k_whole); intro us9 c9 h9 tk9 F9 N9 r9 I9 e9 L9; (try dsimp only at N9); (try k_fold)))
local macro_rules | `(tactic| walk_at "call ref") => `(tactic| (k_here; (with_reducible show wpAny _ _ (call (Value.ref 42) [Value.ref _, Value.int _ _, Value.int _ _]) _ _ _); k_dflt (refine' does_use2 (push_max_does ?a1 ?a2) (push_len _ _ _) ?k1 ?k2 ?k3 ?k4 ?k5 ?k6 ?k7 ?k8 ?k9 ?kA ?_; (case k1 => k_asm); (case k2 => k_asm); (case k3 => k_asm); (case k4 => k_asm); (case k5 => k_updF); (case k6 => k_asm); (case k7 => first | exact rfl | assumption); (case kA => first | with_reducible assumption | with_reducible exact ints_push (by with_reducible assumption)); (case a1 => (first | omega | (simp only [List.length_set, List.length_append, List.length_cons, List.length_nil]; omega))); (case a2 => (first | omega | (simp only [List.length_set, List.length_append, List.length_cons, List.length_nil]; omega))); (case k8 => ktr_room); (case k9 => ktr_units); k_whole); intro us9 c9 h9 tk9 F9 N9 r9 I9 e9 L9; (try dsimp only at N9); (try k_fold)))
local macro_rules | `(tactic| walk_at "call ref") => `(tactic| (k_here; (with_reducible show wpAny _ _ (call (Value.ref 56) [Value.ref _, Value.int _ _, Value.ref 35, Value.ref 28]) _ _ _); k_dflt (refine' does_use2 (law_drop_does ?a1 ?a2 ?a3) (drop_len _ _ _) ?k1 ?k2 ?k3 ?k4 ?k5 ?k6 ?k7 ?k8 ?k9 ?kA ?_; (case k1 => k_asm); (case k2 => k_asm); (case k3 => k_asm); (case k4 => k_asm); (case k5 => k_updF); (case k6 => k_asm); (case k7 => first | exact rfl | assumption); (case kA => first | with_reducible assumption | with_reducible exact ints_push (by with_reducible assumption)); (case a1 => omega); (case a2 => omega); (case a3 => omega); (case k8 => ktr_room); (case k9 => ktr_units); k_whole); intro us9 c9 h9 tk9 F9 N9 r9 I9 e9 L9; (try dsimp only at N9); (try k_fold)))
local macro_rules | `(tactic| walk_at "call ref") => `(tactic| (k_here; (with_reducible show wpAny _ _ (call (Value.ref 56) [Value.ref _, Value.int _ _, Value.ref 49, Value.ref 42]) _ _ _); k_dflt (refine' does_use2 (law_drop_max_does ?a1 ?a2 ?a3) (drop_len _ _ _) ?k1 ?k2 ?k3 ?k4 ?k5 ?k6 ?k7 ?k8 ?k9 ?kA ?_; (case k1 => k_asm); (case k2 => k_asm); (case k3 => k_asm); (case k4 => k_asm); (case k5 => k_updF); (case k6 => k_asm); (case k7 => first | exact rfl | assumption); (case kA => first | with_reducible assumption | with_reducible exact ints_push (by with_reducible assumption)); (case a1 => omega); (case a2 => omega); (case a3 => omega); (case k8 => ktr_room); (case k9 => ktr_units); k_whole); intro us9 c9 h9 tk9 F9 N9 r9 I9 e9 L9; (try dsimp only at N9); (try k_fold)))
local macro_rules | `(tactic| walk_at "call builtin:list.append") => `(tactic| (k_here; (with_reducible show wpAny _ _ (call (Value.builtin _) [Value.ref _, Value.int _ _]) _ _ _); k_dflt (refine' append_my ?k1 ?k2 ?k3 ?k4 ?k5 ?_; (case k1 => k_asm); (case k2 => k_asm); (case k3 => k_upd); (case k4 => with_reducible assumption); (case k5 => omega)); k_whole; intro h9 F9 N9 I9 L9))
local macro_rules | `(tactic| walk_at "call builtin:list.index") => `(tactic| (k_here; (with_reducible show wpAny _ _ (call (Value.builtin _) [Value.ref _, Value.int _ _]) _ _ _); k_dflt (refine' index_my ?k1 ?k2 ?k3 ?k4 ?k5 ?_; (case k1 => k_asm); (case k2 => k_mem); (case k3 => with_reducible assumption); (case k4 => first | exact old_low (by assumption) (by assumption) (by assumption) (by omega) (by omega) (by omega) | exact old_high (by assumption) (by assumption) (by assumption) (by omega) (by omega) (by omega)); (case k5 => omega)); k_whole; intro j9 hj9 ej9))
local macro_rules | `(tactic| walk_at "call builtin:sorted") => `(tactic| (k_here; (with_reducible show wpAny _ _ (call (Value.builtin _) [Value.ref _]) _ _ _); k_dflt (refine' sorted_my ?k1 ?k2 ?k3 ?k4 ?k5 ?_; (case k1 => k_asm); (case k2 => k_asm); (case k3 => k_mem); (case k4 => with_reducible assumption); (case k5 => omega)); k_whole; intro D9 u9 c9 h9 F9 N9 l9 I9 L9; (try k_lt l9)))
local macro_rules | `(tactic| walk_at "call builtin:sorted") => `(tactic| (k_here; (with_reducible show wpAny _ _ (call (Value.builtin _) [Value.ref _]) _ _ _); (rename IntsAre _ (List.take _ _) => hx9); (have n9 := next_few (by assumption) (by assumption) (by assumption) (by assumption) (by omega) (by omega)); k_dflt (refine' sorted_win ?k1 ?k2 ?k3 hx9 ?k4 n9 ?k5 ?k6 ?_; (case k1 => k_asm); (case k2 => k_asm); (case k3 => k_mem); (case k4 => exact slice_win (by omega) (by omega) (by omega)); (case k5 => omega); (case k6 => omega)); k_whole; clear hx9; (try (rename (List.length (List.take _ _) = _) => hx9; clear hx9)); (try (rename (List.length (List.take _ _) ≤ _) => hx9; clear hx9)); intro D9 u9 c9 h9 F9 N9 l9 r9 I9 ea9 eb9 la9 lb9 L9; (try k_lt l9)))
local macro_rules | `(tactic| walk_at "call builtin:sorted") => `(tactic| (k_here; (with_reducible show wpAny _ _ (call (Value.builtin _) [Value.ref _]) _ _ _); (rename IntsAre _ (List.take _ _) => hx9); (have n9 := next_more (by assumption) (by assumption) (by assumption) (by assumption) (by assumption) (by assumption) (by assumption) (by assumption) (by assumption) (by assumption) (by omega) (by omega) (by omega)); k_dflt (refine' sorted_win ?k1 ?k2 ?k3 hx9 ?k4 n9 ?k5 ?k6 ?_; (case k1 => k_asm); (case k2 => k_asm); (case k3 => k_mem); (case k4 => exact slice_win (by omega) (by omega) (by omega)); (case k5 => omega); (case k6 => omega)); k_whole; clear hx9; (try (rename (List.length (List.take _ _) = _) => hx9; clear hx9)); (try (rename (List.length (List.take _ _) ≤ _) => hx9; clear hx9)); intro D9 u9 c9 h9 F9 N9 l9 r9 I9 ea9 eb9 la9 lb9 L9; (try k_lt l9)))
local macro_rules | `(tactic| walk_at "compareOp NotEq ref ref") => `(tactic| (k_here; (with_reducible show wpAny _ _ (compareOp CmpOp.NotEq (Value.ref _) (Value.ref _)) _ _ _); k_dflt (refine' ne_my ?k1 ?k2 ?k3 ?k4 ?k5 ?k6 ?k7 ?_; (case k1 => k_asm); (case k2 => k_mem); (case k3 => k_mem); (case k4 => with_reducible assumption); (case k5 => with_reducible assumption); (case k6 => ke_room); (case k7 => assumption)); k_whole))
local macro_rules | `(tactic| walk_at "binaryOp FloorDiv int int") => `(tactic| (k_here; with_reducible refine fdiv2 ?_))
local macro_rules | `(tactic| walk_at "binaryOp Mod int int") => `(tactic| (k_here; (with_reducible refine mod40 ?_); intro r9 ha9 hb9))
local macro_rules | `(tactic| walk_at "binaryOp Add ref ref") => `(tactic| (k_here; (with_reducible show wpAny _ _ (binaryOp _ (Value.ref _) (Value.ref _)) _ _ _); k_dflt (refine' add_my ?F ?N ?a ?b ?i ?j ?e ?z ?_; (case F => k_asm); (case N => k_asm); (case a => kmk_list); (case b => kmk_list); (case i => l_ints); (case j => l_ints); (case e => rfl); (case z => omega)); k_whole; intro D9 us9 h9 F9 N9 r9 I9 L9))

local macro_rules | `(tactic| walk_at "InvPostN") => `(tactic| ((with_reducible show InvPostN _ _ _ _ _ _ _ (Flow.ret (Value.bool false)) _); exfalso; first | exact absurd (by assumption) (end_low (by assumption) (by omega) (by omega)) | exact absurd (by assumption) (end_high (by assumption) (by omega) (by omega))))
local macro_rules | `(tactic| walk_at "InvEndN") => `(tactic| ((with_reducible show InvEndN _ _ (KstS _ _ _ (PySem.Str.ofString "place") _ _ _ _) _ _ _ _); (rename Fr _ _ _ _ => fE'); (rename News _ _ _ _ => nE'); k_dflt (refine' kst_end ⟨_, _, _⟩ fE' nE' ?b ?c ?d ?e ?f ?g ?h); (case b => ((k_dflt (refine' sub_cons _)); (k_dflt (refine' sub_cons _)); (k_dflt (refine' sub_cons _)); (k_dflt (refine' sub_cons _)); (k_dflt (refine' sub_cons _)); (k_dflt (refine' sub_cons _)); (k_dflt (refine' sub_cons _)); (k_dflt (exact sub_left)))); (case c => k_dflt (refine sub_tail (sub_tail (sub_tail (sub_tail (sub_tail (sub_tail (sub_tail sub_right)))))))); (case d => k_dflt rfl); (case e => k_dflt assumption); (case f => k_dflt (exact List.forall_mem_nil _)); (case g => kst_same); (case h => trivial)))
local macro_rules | `(tactic| walk_at "InvEndN") => `(tactic| ((with_reducible show InvEndN _ _ (KstS _ _ _ (PySem.Str.ofString "k") _ _ _ _) _ _ _ _); (rename Fr _ _ _ _ => fE'); (rename News _ _ _ _ => nE'); k_dflt (refine' kst_end ⟨_, _, _, _, _, _⟩ fE' nE' ?b ?c ?d ?e ?f ?g ?h); (case b => k_dflt (refine sub_three (by k_mem) (by k_mem) (by k_mem))); (case c => k_dflt (refine sub_tail (sub_tail (sub_tail (sub_tail (sub_tail (sub_tail (sub_tail sub_refl)))))))); (case d => k_dflt rfl); (case e => k_dflt (exact ⟨by assumption, by assumption⟩)); (case f => k_dflt (exact List.forall_mem_nil _)); (case g => kst_same); (case h => k_extra "state")))
local macro_rules | `(tactic| walk_at "subscriptTail Name Name ref int") => `(tactic| (k_here; (with_reducible show wpAny _ _ (subscriptTail _ _ (Value.ref _) (Value.int _ _)) _ _ _); k_dflt (refine' ksa_sub ?k1 ?k2 ?k3 ?k4 ?k5 ?k6 ?_ ?k7; (case k1 => k_asm); (case k2 => k_mem); (case k3 => with_reducible assumption); (case k4 => omega); (case k5 => omega); (case k6 => omega); (case k7 => with_unfolding_all rfl)); k_whole; intro _))
set_option maxRecDepth 100000 in
set_option maxHeartbeats 8000000 in
theorem walked : PySem.Challenge.rw_dp0040_01.Holds := hd (by
  k_with_none
  k_with "pyIter ref" => (k_of "k" => k_state_given ["numbers", "width"] (fun numbers width pre low high => LoopIs numbers width pre.length low high ∧ low.length ≤ 100 ∧ high.length ≤ 100) "low" "high")
  k_with "state" => first | exact trivial | exact state_start | exact state_next (by assumption) (by omega) (by omega)
  k_with "pyIter ref" => (k_of "place" => k_state (fun _ _ => True) "window")
  w_strict k_go)
end
end Mine

theorem PySem.Challenge.cw_dp0040_01_holds : PySem.Challenge.rw_dp0040_01.Holds := by
  exact Mine.walked
