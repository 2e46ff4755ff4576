import PyProof.Rows.All
import Wide.All
import OpenK.AllK
import Wide.FinOn
import PySem.Challenge.RW_rl0057_01
set_option Elab.async false
set_option linter.unusedVariables false
set_option linter.unusedSimpArgs false
namespace Mine

/-! sums up to a number -/
def sumTo : Nat → (Nat → Int) → Int
  | 0, _ => 0
  | n + 1, f => sumTo n f + f n
theorem sumTo_congr {n : Nat} {f g : Nat → Int} (h : ∀ k, k < n → f k = g k) : sumTo n f = sumTo n g := by
  induction n with
  | zero => rfl
  | succ n ih => unfold sumTo; rw [ih fun k hk => h k (by omega), h n (by omega)]
theorem sumTo_le {n : Nat} {f g : Nat → Int} (h : ∀ k, k < n → f k ≤ g k) : sumTo n f ≤ sumTo n g := by
  induction n with
  | zero => exact Int.le_refl _
  | succ n ih => unfold sumTo; have := ih fun k hk => h k (by omega); have := h n (by omega); omega
theorem sumTo_add {n : Nat} {f g : Nat → Int} : sumTo n (fun k => f k + g k) = sumTo n f + sumTo n g := by
  induction n with
  | zero => rfl
  | succ n ih => unfold sumTo; rw [ih]; dsimp only; omega
theorem sumTo_mul {n : Nat} {f : Nat → Int} (c : Int) : sumTo n (fun k => c * f k) = c * sumTo n f := by
  induction n with
  | zero => simp [sumTo]
  | succ n ih => unfold sumTo; rw [ih, Int.mul_add]
theorem sumTo_one {n l : Nat} (a : Int) (h : l < n) : sumTo n (fun k => if k = l then a else 0) = a := by
  induction n with
  | zero => omega
  | succ n ih =>
    unfold sumTo
    dsimp only
    by_cases e : n = l
    · have : sumTo n (fun k => if k = l then a else 0) = sumTo n (fun k => 0 * 0) := sumTo_congr fun k hk => by rw [if_neg (by omega)]; rfl
      rw [this, if_pos e]
      have : sumTo n (fun k => 0 * 0) = 0 * sumTo n (fun _ => 0) := sumTo_mul 0
      rw [this]; omega
    · rw [ih (by omega), if_neg e]; omega
theorem sumTo_two {n l h : Nat} {f : Nat → Int} (a b : Int) (hl : l < n) (hh : h < n) : sumTo n (fun k => f k + (if k = l then a else 0) + (if k = h then b else 0)) = sumTo n f + a + b := by
  rw [sumTo_add, sumTo_add, sumTo_one a hl, sumTo_one b hh]
theorem sumTo_lt {n l : Nat} {f g : Nat → Int} (h : ∀ k, k < n → f k ≤ g k) (hl : l < n) (hlt : f l < g l) : sumTo n f < sumTo n g := by
  have h1 : sumTo n (fun k => f k + (if k = l then (1 : Int) else 0)) ≤ sumTo n g := sumTo_le fun k hk => by
    by_cases e : k = l
    · subst e; rw [if_pos rfl]; omega
    · rw [if_neg e]; have := h k hk; omega
  rw [sumTo_add, sumTo_one 1 hl] at h1
  omega

/-! the chips -/
def upd (q : Nat → Int) (l h : Nat) : Nat → Int := fun k => if k = l then q k - 1 else if k = h then q k + 1 else q k
theorem upd_eq {q : Nat → Int} {l h k : Nat} (hne : l ≠ h) : upd q l h k = q k + (if k = l then (-1 : Int) else 0) + (if k = h then (1 : Int) else 0) := by
  unfold upd
  by_cases e : k = l
  · rw [if_pos e, if_pos e, if_neg (by omega)]; omega
  · rw [if_neg e, if_neg e]
    by_cases e' : k = h
    · rw [if_pos e', if_pos e']; omega
    · rw [if_neg e', if_neg e']; omega

/-! how far they go -/
def Bd (c : Int) : Int := if c ≤ 0 then 0 else if c = 1 then 8 else if c = 2 then 15 else if c = 3 then 21 else if c = 4 then 26 else 30
theorem Bd_conc {c : Int} (h1 : 1 ≤ c) (h2 : c ≤ 4) : Bd (c - 1) + Bd (c + 1) ≤ 2 * Bd c - 1 := by
  rcases (by omega : c = 1 ∨ c = 2 ∨ c = 3 ∨ c = 4) with rfl | rfl | rfl | rfl <;> decide
def onA (n : Nat) (A : Nat → Bool) (q : Nat → Int) : Int := sumTo n fun k => if A k then q k else 0
def cnt (n : Nat) (A : Nat → Bool) : Int := onA n A fun _ => 1
def Inv (n : Nat) (q : Nat → Int) : Prop := ∀ A, onA n A q ≤ Bd (cnt n A)
theorem cnt_le (n : Nat) (A : Nat → Bool) : 0 ≤ cnt n A ∧ cnt n A ≤ n := by
  unfold cnt onA
  induction n with
  | zero => exact ⟨Int.le_refl _, Int.le_refl _⟩
  | succ n ih =>
    unfold sumTo
    dsimp only at ih ⊢
    cases A n <;> simp only [Bool.false_eq_true, if_false, if_true] <;> omega
theorem onA_set {n l : Nat} {A : Nat → Bool} {q : Nat → Int} (hl : l < n) (b : Bool) : onA n (fun k => if k = l then b else A k) q = onA n A q + (if b then q l else 0) - (if A l then q l else 0) := by
  have : onA n (fun k => if k = l then b else A k) q = sumTo n (fun k => (if A k then q k else 0) + (if k = l then ((if b then q l else 0) - (if A l then q l else 0)) else 0)) := by
    unfold onA
    refine sumTo_congr fun k hk => ?_
    by_cases e : k = l
    · subst e; simp only [if_true]; omega
    · simp only [e, if_false]; omega
  rw [this, sumTo_add, sumTo_one _ hl]
  unfold onA; omega
theorem onA_upd {n l h : Nat} {A : Nat → Bool} {q : Nat → Int} (hl : l < n) (hh : h < n) (hne : l ≠ h) : onA n A (upd q l h) = onA n A q - (if A l then 1 else 0) + (if A h then 1 else 0) := by
  have : onA n A (upd q l h) = sumTo n (fun k => (if A k then q k else 0) + (if k = l then (-(if A l then 1 else 0)) else 0) + (if k = h then (if A h then 1 else 0) else 0)) := by
    unfold onA
    refine sumTo_congr fun k hk => ?_
    rw [upd_eq hne]
    by_cases e : k = l
    · subst e
      have : ¬ k = h := hne
      simp only [if_true, this, if_false]
      cases A k <;> simp
    · by_cases e' : k = h
      · subst e'
        simp only [e, if_true, if_false]
        cases A k <;> simp
      · simp only [e, e', if_false]
        cases A k <;> simp
  rw [this, sumTo_two _ _ hl hh]
  unfold onA; omega
theorem inv_step {n l h : Nat} {q : Nat → Int} (hn : n ≤ 5) (H : Inv n q) (hl : l < n) (hh : h < n) (hne : l ≠ h) (d0 : 0 ≤ q l - q h) : Inv n (upd q l h) := fun A => by
  rw [onA_upd hl hh hne]
  have hA := H A
  cases al : A l <;> cases ah : A h
  · simpa using hA
  · -- only the high one is in
    simp only [Bool.false_eq_true, if_false, if_true]
    have c1 := cnt_le n A
    by_cases hd : q l = q h
    · have s1 := onA_set (A := A) (q := q) hl true
      have s2 := onA_set (A := A) (q := q) hh false
      have t1 := onA_set (A := A) (q := fun _ => 1) hl true
      have t2 := onA_set (A := A) (q := fun _ => 1) hh false
      have h1 := H (fun k => if k = l then true else A k)
      have h2 := H (fun k => if k = h then false else A k)
      have c2 := cnt_le n (fun k => if k = l then true else A k)
      have c3 := cnt_le n (fun k => if k = h then false else A k)
      unfold cnt at h1 h2 c2 c3
      rw [al] at s1 t1
      rw [ah] at s2 t2
      simp only [Bool.false_eq_true, if_false, if_true] at s1 s2 t1 t2
      rw [t1] at h1 c2
      rw [t2] at h2 c3
      have := Bd_conc (c := cnt n A) (by unfold cnt; omega) (by unfold cnt; omega)
      unfold cnt at this ⊢
      have e1 : onA n A (fun _ => 1) + 1 - 0 = onA n A (fun _ => 1) + 1 := by omega
      have e2 : onA n A (fun _ => 1) + 0 - 1 = onA n A (fun _ => 1) - 1 := by omega
      rw [e1] at h1
      rw [e2] at h2
      omega
    · have s1 := onA_set (A := fun k => if k = l then true else A k) (q := q) hh false
      have s2 := onA_set (A := A) (q := q) hl true
      have t1 := onA_set (A := fun k => if k = l then true else A k) (q := fun _ => 1) hh false
      have t2 := onA_set (A := A) (q := fun _ => 1) hl true
      have h1 := H (fun k => if k = h then false else (fun k => if k = l then true else A k) k)
      have hne' : ¬ h = l := fun e => hne e.symm
      unfold cnt at h1
      rw [al] at s2 t2
      simp only [hne', if_false, ah, Bool.false_eq_true, if_true] at s1 s2 t1 t2
      rw [t1, t2] at h1
      rw [s1, s2] at h1
      have e1 : onA n A (fun _ => 1) + 1 - 0 + 0 - 1 = onA n A (fun _ => 1) := by omega
      rw [e1] at h1
      unfold cnt
      omega
  · simp only [Bool.false_eq_true, if_false, if_true]; omega
  · simp only [if_true]; omega
theorem inv_start {n : Nat} {q : Nat → Int} (hn : n ≤ 5) (h : ∀ k, k < n → q k ≤ 6) : Inv n q := fun A => by
  have h1 : onA n A q ≤ 6 * cnt n A := by
    unfold cnt onA
    rw [← sumTo_mul]
    refine sumTo_le fun k hk => ?_
    have := h k hk
    cases A k <;> simp <;> omega
  have c1 := cnt_le n A
  refine Int.le_trans h1 ?_
  generalize cnt n A = c at *
  rcases (by omega : c = 0 ∨ c = 1 ∨ c = 2 ∨ c = 3 ∨ c = 4 ∨ c = 5) with rfl | rfl | rfl | rfl | rfl | rfl <;> decide
theorem inv_top {n k : Nat} {q : Nat → Int} (H : Inv n q) (hk : k < n) : q k ≤ 8 := by
  have h1 := H fun j => decide (j = k)
  have e : ∀ f : Nat → Int, onA n (fun j => decide (j = k)) f = f k := fun f => by
    unfold onA
    rw [← sumTo_one (f k) hk]
    refine sumTo_congr fun j hj => ?_
    by_cases e : j = k
    · subst e; simp
    · simp [e]
  unfold cnt at h1
  rw [e, e] at h1
  exact h1
end Mine

set_option linter.unusedVariables false
set_option linter.unusedSimpArgs false
namespace Mine

inductive Star {α : Type} (R : α → α → Prop) : α → α → Prop
  | refl (a : α) : Star R a a
  | head {a b c : α} : R a b → Star R b c → Star R a c
theorem Star.trans {α : Type} {R : α → α → Prop} {a b c : α} (h : Star R a b) (k : Star R b c) : Star R a c := by
  induction h with
  | refl _ => exact k
  | head x _ ih => exact .head x (ih k)
theorem Star.one {α : Type} {R : α → α → Prop} {a b : α} (h : R a b) : Star R a b := .head h (.refl _)

/-! three places -/
abbrev T3 := Int × Int × Int
def ok3 (s d : Int) : Bool := decide (0 ≤ d) && decide (d ≤ s)
def step3 (s : Int) (i : Nat) (t : T3) : Option T3 :=
  if i = 0 then (if ok3 s (t.1 - t.2.1) then some (t.1 - 1, t.2.1 + 1, t.2.2) else none)
  else if i = 1 then (if ok3 s (t.1 - t.2.2) then some (t.1 - 1, t.2.1, t.2.2 + 1) else none)
  else (if ok3 s (t.2.1 - t.2.2) then some (t.1, t.2.1 - 1, t.2.2 + 1) else none)
def St3 (s : Int) (t t' : T3) : Prop := ∃ i, step3 s i t = some t'
def nf3 (s : Int) : Nat → T3 → T3
  | 0, t => t
  | n + 1, t => match step3 s 0 t with
    | some t' => nf3 s n t'
    | none => match step3 s 1 t with
      | some t' => nf3 s n t'
      | none => match step3 s 2 t with
        | some t' => nf3 s n t'
        | none => t
theorem nf3_star (s : Int) : ∀ (n : Nat) (t : T3), Star (St3 s) t (nf3 s n t)
  | 0, t => .refl _
  | n + 1, t => by
    unfold nf3
    split
    · rename_i h; exact .head ⟨0, h⟩ (nf3_star s n _)
    · split
      · rename_i h; exact .head ⟨1, h⟩ (nf3_star s n _)
      · split
        · rename_i h; exact .head ⟨2, h⟩ (nf3_star s n _)
        · exact .refl _
def add3 (z : Int) (t : T3) : T3 := (t.1 + z, t.2.1 + z, t.2.2 + z)
theorem step3_add (s z : Int) (i : Nat) (t t' : T3) (h : step3 s i t = some t') : step3 s i (add3 z t) = some (add3 z t') := by
  have e1 : t.1 + z - (t.2.1 + z) = t.1 - t.2.1 := by omega
  have e2 : t.1 + z - (t.2.2 + z) = t.1 - t.2.2 := by omega
  have e3 : t.2.1 + z - (t.2.2 + z) = t.2.1 - t.2.2 := by omega
  unfold step3 at h ⊢
  unfold add3
  dsimp only
  rw [e1, e2, e3]
  split at h
  · split at h
    · rename_i a b
      rw [if_pos a, if_pos b]; cases h; exact congrArg some (Prod.ext (by first | rfl | (dsimp only; omega)) (Prod.ext (by first | rfl | (dsimp only; omega)) (by first | rfl | (dsimp only; omega))))
    · cases h
  · split at h
    · split at h
      · rename_i a b c
        rw [if_neg a, if_pos b, if_pos c]; cases h; exact congrArg some (Prod.ext (by first | rfl | (dsimp only; omega)) (Prod.ext (by first | rfl | (dsimp only; omega)) (by first | rfl | (dsimp only; omega))))
      · cases h
    · split at h
      · rename_i a b c
        rw [if_neg a, if_neg b, if_pos c]; cases h; exact congrArg some (Prod.ext (by first | rfl | (dsimp only; omega)) (Prod.ext (by first | rfl | (dsimp only; omega)) (by first | rfl | (dsimp only; omega))))
      · cases h
theorem star3_add {s : Int} (z : Int) {t t' : T3} (h : Star (St3 s) t t') : Star (St3 s) (add3 z t) (add3 z t') := by
  induction h with
  | refl _ => exact .refl _
  | head x _ ih =>
    obtain ⟨i, x⟩ := x
    exact .head ⟨i, step3_add s z i _ _ x⟩ ih
/-- both ways out of three places meet again -/
def meet3 (s : Int) (t : T3) (i j : Nat) : Bool := match step3 s i t, step3 s j t with
  | some a, some b => nf3 s 12 a == nf3 s 12 b
  | _, _ => true
def intsR (lo : Int) : Nat → List Int
  | 0 => []
  | n + 1 => lo :: intsR (lo + 1) n
theorem intsR_mem (x lo : Int) (n : Nat) (h1 : lo ≤ x) (h2 : x < lo + n) : x ∈ intsR lo n := by
  induction n generalizing lo with
  | zero => omega
  | succ n ih =>
    unfold intsR
    by_cases e : x = lo
    · rw [e]; exact .head _
    · exact .tail _ (ih (lo + 1) (by omega) (by omega))
theorem meet3_all : ([1, 2] : List Int).all (fun s => (intsR (-4) 9).all fun u => (intsR (-4) 9).all fun v => ([0, 1, 2] : List Nat).all fun i => ([0, 1, 2] : List Nat).all fun j => meet3 s (u, v, 0) i j) = true := by decide +kernel
theorem step3_lt {s : Int} {i : Nat} {t t' : T3} (h : step3 s i t = some t') : (i = 0 ∧ 0 ≤ t.1 - t.2.1 ∧ t.1 - t.2.1 ≤ s) ∨ (i = 1 ∧ 0 ≤ t.1 - t.2.2 ∧ t.1 - t.2.2 ≤ s) ∨ ((i ≠ 0 ∧ i ≠ 1) ∧ 0 ≤ t.2.1 - t.2.2 ∧ t.2.1 - t.2.2 ≤ s) := by
  unfold step3 ok3 at h
  split at h
  · split at h
    · rename_i a b; simp only [Bool.and_eq_true, decide_eq_true_eq] at b; exact .inl ⟨a, b.1, b.2⟩
    · cases h
  · split at h
    · split at h
      · rename_i a b; simp only [Bool.and_eq_true, decide_eq_true_eq] at b; exact .inr (.inl ⟨‹_›, b.1, b.2⟩)
      · cases h
    · split at h
      · rename_i a b; simp only [Bool.and_eq_true, decide_eq_true_eq] at b; exact .inr (.inr ⟨⟨‹_›, ‹_›⟩, b.1, b.2⟩)
      · cases h
theorem join3 {s : Int} (hs : s = 1 ∨ s = 2) {t a b : T3} {i j : Nat} (hi : i ≤ 2) (hj : j ≤ 2) (ha : step3 s i t = some a) (hb : step3 s j t = some b) (hij : i ≠ j) : ∃ r, Star (St3 s) a r ∧ Star (St3 s) b r := by
  obtain ⟨x, y, z⟩ := t
  have ha' := step3_add s (-z) i _ _ ha
  have hb' := step3_add s (-z) j _ _ hb
  have la := step3_lt ha
  have lb := step3_lt hb
  dsimp only at la lb
  have hu : x + -z ∈ intsR (-4) 9 := intsR_mem _ _ _ (by omega) (by omega)
  have hv : y + -z ∈ intsR (-4) 9 := intsR_mem _ _ _ (by omega) (by omega)
  have hall := meet3_all
  simp only [List.all_eq_true] at hall
  have hm := hall s (by simp; omega) _ hu _ hv i (by simp; omega) j (by simp; omega)
  have e0 : add3 (-z) (x, y, z) = (x + -z, y + -z, 0) := Prod.ext (by unfold add3; dsimp only) (Prod.ext (by unfold add3; dsimp only) (by unfold add3; dsimp only; omega))
  rw [e0] at ha' hb'
  unfold meet3 at hm
  rw [ha', hb'] at hm
  have hm := beq_iff_eq.mp hm
  have back : ∀ c : T3, add3 z (add3 (-z) c) = c := fun c => by
    obtain ⟨c1, c2, c3⟩ := c
    unfold add3; exact Prod.ext (by first | rfl | (dsimp only; omega)) (Prod.ext (by first | rfl | (dsimp only; omega)) (by first | rfl | (dsimp only; omega)))
  refine ⟨add3 z (nf3 s 12 (add3 (-z) a)), ?_, ?_⟩
  · have := star3_add z (nf3_star s 12 (add3 (-z) a))
    rwa [back] at this
  · have := star3_add z (nf3_star s 12 (add3 (-z) b))
    rw [back, ← hm] at this
    exact this
end Mine

set_option linter.unusedVariables false
set_option linter.unusedSimpArgs false
namespace Mine

structure Ord (n : Nat) (lt : Nat → Nat → Bool) : Prop where
  irr : ∀ i, lt i i = false
  tr : ∀ i j k, lt i j = true → lt j k = true → lt i k = true
  tot : ∀ i j, i ≠ j → lt i j = true ∨ lt j i = true
theorem Ord.asym {n : Nat} {lt : Nat → Nat → Bool} (O : Ord n lt) {i j : Nat} (h : lt i j = true) : lt j i = false := by
  cases e : lt j i with
  | false => rfl
  | true => have := O.tr _ _ _ h e; rw [O.irr] at this; cases this
theorem Ord.ne {n : Nat} {lt : Nat → Nat → Bool} (O : Ord n lt) {i j : Nat} (h : lt i j = true) : i ≠ j := fun e => by
  subst e; rw [O.irr] at h; cases h

def St (n : Nat) (s : Int) (lt : Nat → Nat → Bool) (q q' : Nat → Int) : Prop := ∃ l h, l < n ∧ h < n ∧ lt l h = true ∧ 0 ≤ q l - q h ∧ q l - q h ≤ s ∧ q' = upd q l h
def emb (a b c : Nat) (q : Nat → Int) (t : T3) : Nat → Int := fun k => if k = a then t.1 else if k = b then t.2.1 else if k = c then t.2.2 else q k
def pr (a b c : Nat) (i : Nat) : Nat × Nat := if i = 0 then (a, b) else if i = 1 then (a, c) else (b, c)
theorem emb_self {a b c : Nat} (q : Nat → Int) : emb a b c q (q a, q b, q c) = q := by
  funext k
  unfold emb
  by_cases h1 : k = a
  · subst h1; simp
  · by_cases h2 : k = b
    · subst h2; simp [h1]
    · by_cases h3 : k = c
      · subst h3; simp [h1, h2]
      · simp [h1, h2, h3]
theorem emb_step {a b c : Nat} {s : Int} {i : Nat} {q : Nat → Int} {t t' : T3} (hab : a ≠ b) (hac : a ≠ c) (hbc : b ≠ c) (h : step3 s i t = some t') :
    emb a b c q t' = upd (emb a b c q t) (pr a b c i).1 (pr a b c i).2 ∧ 0 ≤ emb a b c q t (pr a b c i).1 - emb a b c q t (pr a b c i).2 ∧ emb a b c q t (pr a b c i).1 - emb a b c q t (pr a b c i).2 ≤ s := by
  have ea : emb a b c q t a = t.1 := by unfold emb; simp
  have eb : emb a b c q t b = t.2.1 := by unfold emb; simp [Ne.symm hab]
  have ec : emb a b c q t c = t.2.2 := by unfold emb; simp [Ne.symm hac, Ne.symm hbc]
  have hl := step3_lt h
  unfold step3 at h
  rcases hl with ⟨rfl, l1, l2⟩ | ⟨rfl, l1, l2⟩ | ⟨⟨n0, n1⟩, l1, l2⟩
  · simp only [if_true] at h
    split at h
    · cases h
      show _ = upd _ a b ∧ 0 ≤ emb a b c q t a - emb a b c q t b ∧ emb a b c q t a - emb a b c q t b ≤ s
      rw [ea, eb]
      refine ⟨?_, l1, l2⟩
      funext k
      unfold upd
      by_cases h1 : k = a
      · subst h1; rw [if_pos rfl, ea]; unfold emb; simp
      · by_cases h2 : k = b
        · subst h2; rw [if_neg h1, if_pos rfl, eb]; unfold emb; simp [h1]
        · rw [if_neg h1, if_neg h2]; unfold emb; simp [h1, h2]
    · cases h
  · simp only [show ¬ (1 : Nat) = 0 by decide, if_false, if_true] at h
    split at h
    · cases h
      show _ = upd _ a c ∧ 0 ≤ emb a b c q t a - emb a b c q t c ∧ emb a b c q t a - emb a b c q t c ≤ s
      rw [ea, ec]
      refine ⟨?_, l1, l2⟩
      funext k
      unfold upd
      by_cases h1 : k = a
      · subst h1; rw [if_pos rfl, ea]; unfold emb; simp
      · by_cases h2 : k = c
        · subst h2; rw [if_neg h1, if_pos rfl, ec]; unfold emb; simp [h1, Ne.symm hbc]
        · rw [if_neg h1, if_neg h2]; unfold emb; simp [h1, h2]
    · cases h
  · rw [if_neg n0, if_neg n1] at h
    have ep : pr a b c i = (b, c) := by unfold pr; rw [if_neg n0, if_neg n1]
    rw [ep]
    split at h
    · cases h
      show _ = upd _ b c ∧ 0 ≤ emb a b c q t b - emb a b c q t c ∧ emb a b c q t b - emb a b c q t c ≤ s
      rw [eb, ec]
      refine ⟨?_, l1, l2⟩
      funext k
      unfold upd
      by_cases h1 : k = b
      · subst h1; rw [if_pos rfl, eb]; unfold emb; simp [Ne.symm hab]
      · by_cases h2 : k = c
        · subst h2; rw [if_neg h1, if_pos rfl, ec]; unfold emb; simp [h1, Ne.symm hac]
        · rw [if_neg h1, if_neg h2]; unfold emb; simp [h1, h2]
    · cases h

section
variable {n : Nat} {s : Int} {lt : Nat → Nat → Bool}

theorem emb_star {a b c : Nat} {q : Nat → Int} (ha : a < n) (hb : b < n) (hc : c < n) (O : Ord n lt) (hab : lt a b = true) (hbc : lt b c = true) {t t' : T3} (h : Star (St3 s) t t') : Star (St n s lt) (emb a b c q t) (emb a b c q t') := by
  have hac := O.tr _ _ _ hab hbc
  induction h with
  | refl _ => exact .refl _
  | head x _ ih =>
    obtain ⟨i, x⟩ := x
    obtain ⟨e1, e2, e3⟩ := emb_step (q := q) (O.ne hab) (O.ne hac) (O.ne hbc) x
    refine .head ⟨(pr a b c i).1, (pr a b c i).2, ?_, ?_, ?_, e2, e3, e1⟩ ih
    · unfold pr; split
      · exact ha
      · split
        · exact ha
        · exact hb
    · unfold pr; split
      · exact hb
      · split
        · exact hc
        · exact hc
    · unfold pr; split
      · exact hab
      · split
        · exact hac
        · exact hbc
theorem step3_of {i : Nat} {q : Nat → Int} {a b c : Nat} (h0 : 0 ≤ q (pr a b c i).1 - q (pr a b c i).2) (h1 : q (pr a b c i).1 - q (pr a b c i).2 ≤ s) : ∃ t', step3 s i (q a, q b, q c) = some t' := by
  unfold pr at h0 h1
  unfold step3 ok3
  split at h0
  · rename_i e; rw [if_pos e] at h1; rw [if_pos e, if_pos (by dsimp only at h0 h1; simp; omega)]; exact ⟨_, rfl⟩
  · rename_i e
    rw [if_neg e] at h1
    rw [if_neg e]
    split at h0
    · rename_i e; rw [if_pos e] at h1; rw [if_pos e, if_pos (by dsimp only at h0 h1; simp; omega)]; exact ⟨_, rfl⟩
    · rename_i e; rw [if_neg e] at h1; rw [if_neg e, if_pos (by dsimp only at h0 h1; simp; omega)]; exact ⟨_, rfl⟩
/-- two ways that share a place -/
theorem tri {a b c i j : Nat} {q : Nat → Int} (hs : s = 1 ∨ s = 2) (O : Ord n lt) (ha : a < n) (hb : b < n) (hc : c < n) (hab : lt a b = true) (hbc : lt b c = true) (hi : i ≤ 2) (hj : j ≤ 2) (hij : i ≠ j)
    (i0 : 0 ≤ q (pr a b c i).1 - q (pr a b c i).2) (i1 : q (pr a b c i).1 - q (pr a b c i).2 ≤ s) (j0 : 0 ≤ q (pr a b c j).1 - q (pr a b c j).2) (j1 : q (pr a b c j).1 - q (pr a b c j).2 ≤ s) :
    ∃ r, Star (St n s lt) (upd q (pr a b c i).1 (pr a b c i).2) r ∧ Star (St n s lt) (upd q (pr a b c j).1 (pr a b c j).2) r := by
  have hac := O.tr _ _ _ hab hbc
  obtain ⟨t1, h1⟩ := step3_of i0 i1
  obtain ⟨t2, h2⟩ := step3_of j0 j1
  obtain ⟨r, r1, r2⟩ := join3 hs hi hj h1 h2 hij
  have e1 := (emb_step (q := q) (O.ne hab) (O.ne hac) (O.ne hbc) h1).1
  have e2 := (emb_step (q := q) (O.ne hab) (O.ne hac) (O.ne hbc) h2).1
  rw [emb_self] at e1 e2
  rw [← e1, ← e2]
  exact ⟨emb a b c q r, emb_star ha hb hc O hab hbc r1, emb_star ha hb hc O hab hbc r2⟩
theorem pr0 (a b c : Nat) : pr a b c 0 = (a, b) := rfl
theorem pr1 (a b c : Nat) : pr a b c 1 = (a, c) := rfl
theorem pr2 (a b c : Nat) : pr a b c 2 = (b, c) := rfl
theorem meet {q q1 q2 : Nat → Int} (hs : s = 1 ∨ s = 2) (O : Ord n lt) (h1 : St n s lt q q1) (h2 : St n s lt q q2) : ∃ r, Star (St n s lt) q1 r ∧ Star (St n s lt) q2 r := by
  obtain ⟨l1, g1, a1, b1, c1, d1, e1, rfl⟩ := h1
  obtain ⟨l2, g2, a2, b2, c2, d2, e2, rfl⟩ := h2
  by_cases hll : l1 = l2
  · subst hll
    by_cases hgg : g1 = g2
    · subst hgg; exact ⟨_, .refl _, .refl _⟩
    · rcases O.tot _ _ hgg with h | h
      · have := tri (q := q) (i := 0) (j := 1) hs O a1 b1 b2 c1 h (by decide) (by decide) (by decide) d1 e1 d2 e2
        exact this
      · have := tri (q := q) (i := 1) (j := 0) hs O a1 b2 b1 c2 h (by decide) (by decide) (by decide) d1 e1 d2 e2
        exact this
  · by_cases hgg : g1 = g2
    · subst hgg
      rcases O.tot _ _ hll with h | h
      · exact tri (q := q) (i := 1) (j := 2) hs O a1 a2 b1 h c2 (by decide) (by decide) (by decide) d1 e1 d2 e2
      · exact tri (q := q) (i := 2) (j := 1) hs O a2 a1 b1 h c1 (by decide) (by decide) (by decide) d1 e1 d2 e2
    · by_cases hgl : g1 = l2
      · subst hgl
        exact tri (q := q) (i := 0) (j := 2) hs O a1 b1 b2 c1 c2 (by decide) (by decide) (by decide) d1 e1 d2 e2
      · by_cases hlg : l1 = g2
        · subst hlg
          exact tri (q := q) (i := 2) (j := 0) hs O a2 a1 b1 c2 c1 (by decide) (by decide) (by decide) d1 e1 d2 e2
        · have n1 := O.ne c1
          have n2 := O.ne c2
          refine ⟨upd (upd q l1 g1) l2 g2, .one ⟨l2, g2, a2, b2, c2, ?_, ?_, rfl⟩, .one ⟨l1, g1, a1, b1, c1, ?_, ?_, ?_⟩⟩
          · rw [upd_eq n1, upd_eq n1]; simp only [Ne.symm hll, Ne.symm hgl, Ne.symm hlg, Ne.symm hgg, if_false]; omega
          · rw [upd_eq n1, upd_eq n1]; simp only [Ne.symm hll, Ne.symm hgl, Ne.symm hlg, Ne.symm hgg, if_false]; omega
          · rw [upd_eq n2, upd_eq n2]; simp only [hll, hgl, hlg, hgg, if_false]; omega
          · rw [upd_eq n2, upd_eq n2]; simp only [hll, hgl, hlg, hgg, if_false]; omega
          · funext k
            rw [upd_eq n2, upd_eq n1, upd_eq n1, upd_eq n2]; omega

/-! a measure -/
def rank (n : Nat) (lt : Nat → Nat → Bool) (k : Nat) : Int := sumTo n fun j => if lt j k then 1 else 0
def mu (n : Nat) (lt : Nat → Nat → Bool) (q : Nat → Int) : Int := sumTo n fun k => rank n lt k * (8 - q k)
theorem rank_lt (O : Ord n lt) {l h : Nat} (hl : l < n) (hlh : lt l h = true) : rank n lt l < rank n lt h := by
  refine sumTo_lt (l := l) (fun k hk => ?_) hl ?_
  · cases e : lt k l with
    | false => simp only [Bool.false_eq_true, if_false]; cases lt k h <;> simp
    | true => rw [O.tr _ _ _ e hlh]; exact Int.le_refl _
  · rw [O.irr, hlh]; decide
theorem rank_nonneg (k : Nat) : 0 ≤ rank n lt k := by
  have : sumTo n (fun _ => 0 * 0) ≤ rank n lt k := sumTo_le fun j hj => by cases lt j k <;> simp
  rw [sumTo_mul] at this; omega
theorem mu_step (O : Ord n lt) {q q' : Nat → Int} (h : St n s lt q q') : mu n lt q' < mu n lt q := by
  obtain ⟨l, g, a, b, c, d, e, rfl⟩ := h
  have hr := rank_lt O a c
  have : mu n lt (upd q l g) = sumTo n (fun k => rank n lt k * (8 - q k) + (if k = l then rank n lt l else 0) + (if k = g then (- rank n lt g) else 0)) := by
    refine sumTo_congr fun k hk => ?_
    rw [upd_eq (O.ne c)]
    by_cases h1 : k = l
    · subst h1
      have : ¬ k = g := O.ne c
      simp only [if_true, this, if_false, Int.mul_sub, Int.mul_add]; omega
    · by_cases h2 : k = g
      · subst h2
        simp only [h1, if_true, if_false, Int.mul_sub, Int.mul_add]; omega
      · simp only [h1, h2, if_false, Int.mul_sub, Int.mul_add]; omega
  rw [this, sumTo_two _ _ a b]
  unfold mu; omega
def Gd (n : Nat) (q : Nat → Int) : Prop := Inv n q ∧ Inv n fun k => 10 - q k
theorem gd_step (O : Ord n lt) (hn : n ≤ 5) {q q' : Nat → Int} (G : Gd n q) (h : St n s lt q q') : Gd n q' := by
  obtain ⟨l, g, a, b, c, d, e, rfl⟩ := h
  have hne := O.ne c
  refine ⟨inv_step hn G.1 a b hne d, ?_⟩
  have := inv_step hn G.2 b a (Ne.symm hne) (by omega)
  have e : upd (fun k => 10 - q k) g l = fun k => 10 - upd q l g k := by
    funext k
    rw [upd_eq (Ne.symm hne), upd_eq hne]
    by_cases h1 : k = l
    · subst h1; simp only [if_true, hne, if_false]; omega
    · by_cases h2 : k = g
      · subst h2; simp only [h1, if_true, if_false]; omega
      · simp only [h1, h2, if_false]; omega
  rw [e] at this
  exact this
theorem gd_between {q : Nat → Int} (G : Gd n q) {k : Nat} (hk : k < n) : 2 ≤ q k ∧ q k ≤ 8 := by
  have h1 := inv_top G.1 hk
  have h2 := inv_top G.2 hk
  omega
theorem mu_nonneg {q : Nat → Int} (G : Gd n q) : 0 ≤ mu n lt q := by
  have : sumTo n (fun _ => 0 * 0) ≤ mu n lt q := sumTo_le fun k hk => by
    have := Int.mul_nonneg (rank_nonneg (n := n) (lt := lt) k) (by have := gd_between G hk; omega : 0 ≤ 8 - q k)
    omega
  rw [sumTo_mul] at this; omega

def Still (n : Nat) (s : Int) (lt : Nat → Nat → Bool) (q : Nat → Int) : Prop := ∀ q', ¬ St n s lt q q'
theorem star_still {q e : Nat → Int} (h : Still n s lt q) (k : Star (St n s lt) q e) : e = q := by
  cases k with
  | refl _ => rfl
  | head x _ => exact absurd x (h _)
theorem ends (O : Ord n lt) (hn : n ≤ 5) : ∀ (m : Nat) (q : Nat → Int), Gd n q → mu n lt q ≤ m → ∃ e, Star (St n s lt) q e ∧ Still n s lt e := by
  intro m
  induction m with
  | zero =>
    intro q G hm
    refine ⟨q, .refl _, fun q' h => ?_⟩
    have := mu_step O h
    have := mu_nonneg (lt := lt) (gd_step O hn G h)
    omega
  | succ m ih =>
    intro q G hm
    by_cases h : ∃ q', St n s lt q q'
    · obtain ⟨q', h⟩ := h
      have := mu_step O h
      obtain ⟨e, k1, k2⟩ := ih q' (gd_step O hn G h) (by omega)
      exact ⟨e, .head h k1, k2⟩
    · exact ⟨q, .refl _, fun q' k => h ⟨q', k⟩⟩
theorem one_end (hs : s = 1 ∨ s = 2) (O : Ord n lt) (hn : n ≤ 5) : ∀ (m : Nat) (q : Nat → Int), Gd n q → mu n lt q ≤ m → ∀ e1 e2, Star (St n s lt) q e1 → Still n s lt e1 → Star (St n s lt) q e2 → Still n s lt e2 → e1 = e2 := by
  intro m
  induction m with
  | zero =>
    intro q G hm e1 e2 h1 s1 h2 s2
    have st : Still n s lt q := fun q' h => by
      have := mu_step O h
      have := mu_nonneg (lt := lt) (gd_step O hn G h)
      omega
    rw [star_still st h1, star_still st h2]
  | succ m ih =>
    intro q G hm e1 e2 h1 s1 h2 s2
    cases h1 with
    | refl _ => exact (star_still s1 h2).symm
    | head x1 y1 =>
      cases h2 with
      | refl _ => exact absurd x1 (s2 _)
      | head x2 y2 =>
        obtain ⟨r, r1, r2⟩ := meet hs O x1 x2
        have g1 := gd_step O hn G x1
        have g2 := gd_step O hn G x2
        have m1 := mu_step O x1
        have m2 := mu_step O x2
        have gr : ∀ {a b : Nat → Int}, Star (St n s lt) a b → Gd n a → Gd n b := fun {a b} h => by
          induction h with
          | refl _ => exact id
          | head x _ ih => exact fun g => ih (gd_step O hn g x)
        obtain ⟨e, k1, k2⟩ := ends (s := s) O hn (mu n lt r).toNat r (gr r1 g1) (by have := mu_nonneg (lt := lt) (gr r1 g1); omega)
        have p1 := ih _ g1 (by omega) e1 e y1 s1 (r1.trans k1) k2
        have p2 := ih _ g2 (by omega) e2 e y2 s2 (r2.trans k1) k2
        rw [p1, p2]
end
end Mine

open PySem PySem.W PyProof.Rows
set_option Elab.async false
set_option linter.unusedVariables false
namespace Mine

/-- plain data -/
inductive D where
  | none
  | bool (b : Bool)
  | int (i : Int)
  | str (x : Str)
  | list (l : List D)
  | tup (l : List D)
  | range (lo hi : Int)
  | obj (c : Addr) (ns : List Str) (vs : List D)
  | raw (v : Value)

def listObj (vs : List Value) (n : Nat) : Obj := { cls := .type "list", dict := none, data := .seq vs.toArray n, slots := #[] }
def tupObj (vs : List Value) (n : Nat) : Obj := { cls := .type "tuple", dict := none, data := .seq vs.toArray n, slots := #[] }

def dictO (es : List DictEntry) (n : Nat) : Obj := { cls := .type "dict", dict := none, data := .dict es.toArray n, slots := #[] }
def instO (c dx : Addr) : Obj := { cls := .ref c, dict := some dx, data := .plain, slots := #[] }
def rangeO (lo hi : Int) (t u v : Tok) : Obj := { cls := .type "range", dict := none, data := .fields #[.int lo t, .int hi u, .int 1 v], slots := #[] }
def keyName : Value → Option Str
  | .str x _ => some x
  | _ => none

mutual
/-- the value v stands for the data d in the heap h; none of its objects lies in X -/
inductive Is (X : Addr → Prop) (h : Heap) : Value → D → Prop
  | none : Is X h .none .none
  | bool (b : Bool) : Is X h (.bool b) (.bool b)
  | int (i : Int) (t : Tok) : Is X h (.int i t) (.int i)
  | str (x : Str) (t : Tok) : Is X h (.str x t) (.str x)
  | list {a : Addr} {vs : List Value} {n : Nat} {ds : List D} : ¬ X a → h.get? a = some (listObj vs n) → IsAll X h vs ds → Is X h (.ref a) (.list ds)
  | tup {a : Addr} {vs : List Value} {n : Nat} {ds : List D} : ¬ X a → h.get? a = some (tupObj vs n) → IsAll X h vs ds → Is X h (.ref a) (.tup ds)
  | range {a : Addr} {lo hi : Int} {t u v : Tok} : ¬ X a → h.get? a = some (rangeO lo hi t u v) → Is X h (.ref a) (.range lo hi)
  | obj {a dx c : Addr} {es : List DictEntry} {n : Nat} {ns : List Str} {vs : List D} : ¬ X a → ¬ X dx → h.get? a = some (instO c dx) → h.get? dx = some (dictO es n) →
      es.map (fun e => keyName e.key) = ns.map some → IsAll X h (es.map (fun e => e.val)) vs → Is X h (.ref a) (.obj c ns vs)
  | raw (v : Value) : Is X h v (.raw v)
inductive IsAll (X : Addr → Prop) (h : Heap) : List Value → List D → Prop
  | nil : IsAll X h [] []
  | cons {v : Value} {vs : List Value} {d : D} {ds : List D} : Is X h v d → IsAll X h vs ds → IsAll X h (v :: vs) (d :: ds)
end

mutual
theorem Is.mono {X Y : Addr → Prop} {h h' : Heap} (hk : ∀ b o, ¬ X b → h.get? b = some o → ¬ Y b ∧ h'.get? b = some o) : ∀ {v : Value} {d : D}, Is X h v d → Is Y h' v d
  | _, _, .none => .none
  | _, _, .bool b => .bool b
  | _, _, .int i t => .int i t
  | _, _, .str x t => .str x t
  | _, _, .list ha ho hs => .list (hk _ _ ha ho).1 (hk _ _ ha ho).2 (IsAll.mono hk hs)
  | _, _, .tup ha ho hs => .tup (hk _ _ ha ho).1 (hk _ _ ha ho).2 (IsAll.mono hk hs)
  | _, _, .range ha ho => .range (hk _ _ ha ho).1 (hk _ _ ha ho).2
  | _, _, .obj ha hd ho he hn hs => .obj (hk _ _ ha ho).1 (hk _ _ hd he).1 (hk _ _ ha ho).2 (hk _ _ hd he).2 hn (IsAll.mono hk hs)
  | _, _, .raw v => .raw v
theorem IsAll.mono {X Y : Addr → Prop} {h h' : Heap} (hk : ∀ b o, ¬ X b → h.get? b = some o → ¬ Y b ∧ h'.get? b = some o) : ∀ {vs : List Value} {ds : List D}, IsAll X h vs ds → IsAll Y h' vs ds
  | _, _, .nil => .nil
  | _, _, .cons a r => .cons (Is.mono hk a) (IsAll.mono hk r)
end


/-- everything is kept; tokens are used up, never handed back -/
def Keeps (s s' : Shared) : Prop := ∃ h' tk, s' = { s with heap := h', toks := tk } ∧ @LE.le Nat _ s.toks tk ∧ ∀ b o, s.heap.get? b = some o → h'.get? b = some o
def Keeps0 (s s' : Shared) : Prop := ∃ h' tk, s' = { s with heap := h', toks := tk } ∧ ∀ b o, s.heap.get? b = some o → h'.get? b = some o
theorem keeps_refl (s : Shared) : Keeps s s := ⟨s.heap, s.toks, rfl, Nat.le_refl _, fun _ _ e => e⟩
theorem keeps_toks (s : Shared) (n : Nat) : Keeps s { s with toks := s.toks + n } := ⟨s.heap, _, rfl, Nat.le_add_right _ _, fun _ _ e => e⟩
theorem keeps0_toks (s : Shared) (t : Nat) : Keeps0 s { s with toks := t } := ⟨s.heap, t, rfl, fun _ _ e => e⟩
theorem keeps_trans {s s' s'' : Shared} (a : Keeps s s') (b : Keeps s' s'') : Keeps s s'' := by
  obtain ⟨h', t', rfl, l, k⟩ := a
  obtain ⟨h'', t'', rfl, l', k'⟩ := b
  exact ⟨h'', t'', rfl, Nat.le_trans l l', fun x o e => k' x o (k x o e)⟩
theorem keeps_get {s s' : Shared} (k : Keeps s s') {b : Addr} {o : Obj} (e : s.heap.get? b = some o) : s'.heap.get? b = some o := by
  obtain ⟨h', t', rfl, l, k⟩ := k
  exact k b o e
theorem keeps_le {s s' : Shared} (k : Keeps s s') : @LE.le Nat _ s.toks s'.toks := by
  obtain ⟨h', t', rfl, l, k⟩ := k
  exact l
theorem keeps_push (s : Shared) (o : Obj) : Keeps s { s with heap := s.heap.push o } := ⟨_, s.toks, rfl, Nat.le_refl _, fun _ _ e => Heap.get?_push_of_some _ e⟩
theorem keeps_heap {s : Shared} {h' : Heap} (k : ∀ b o, s.heap.get? b = some o → h'.get? b = some o) : Keeps s { s with heap := h' } := ⟨_, _, rfl, Nat.le_refl _, k⟩
theorem keeps0_heap {s : Shared} {h' : Heap} {t : Nat} (k : ∀ b o, s.heap.get? b = some o → h'.get? b = some o) : Keeps0 s { s with heap := h', toks := t } := ⟨_, _, rfl, k⟩
theorem keeps_of0 {s s' : Shared} (k : Keeps0 s s') (l : @LE.le Nat _ s.toks s'.toks) : Keeps s s' := by
  obtain ⟨h', t', rfl, k⟩ := k
  exact ⟨h', t', rfl, l, k⟩
/-- a tree never hands tokens back -/
theorem up {α : Type} {M : Model} {A : Around} {t : Sem α} {P : α → Shared → Prop} {s : Shared} (h : wpAny M A t (fun v s' => Keeps0 s s' ∧ P v s') (fun _ _ => False) s) : wpAny M A t (fun v s' => Keeps s s' ∧ P v s') (fun _ _ => False) s :=
  wpAny_mono (wpAny_toks_of (n := s.toks) (Nat.le_refl _) h) (fun _ _ z => ⟨keeps_of0 z.2.1 z.1, z.2.2⟩) fun _ _ z => z.2

/-- everything outside W is kept -/
def KeepsW (W : Addr → Prop) (s s' : Shared) : Prop := ∃ h' tk, s' = { s with heap := h', toks := tk } ∧ @LE.le Nat _ s.toks tk ∧ ∀ b o, ¬ W b → s.heap.get? b = some o → h'.get? b = some o
theorem keepsW_refl (W : Addr → Prop) (s : Shared) : KeepsW W s s := ⟨s.heap, s.toks, rfl, Nat.le_refl _, fun _ _ _ e => e⟩
theorem keepsW_of {W : Addr → Prop} {s s' : Shared} (a : Keeps s s') : KeepsW W s s' := by
  obtain ⟨h', t', rfl, l, k⟩ := a
  exact ⟨h', t', rfl, l, fun b o _ e => k b o e⟩
theorem keepsW_trans {W : Addr → Prop} {s s' s'' : Shared} (a : KeepsW W s s') (b : KeepsW W s' s'') : KeepsW W s s'' := by
  obtain ⟨h', t', rfl, l, k⟩ := a
  obtain ⟨h'', t'', rfl, l', k'⟩ := b
  exact ⟨h'', t'', rfl, Nat.le_trans l l', fun x o n e => k' x o n (k x o n e)⟩
theorem keepsW_mono {W V : Addr → Prop} {s s' : Shared} (hs : ∀ a, W a → V a) (a : KeepsW W s s') : KeepsW V s s' := by
  obtain ⟨h', t', rfl, l, k⟩ := a
  exact ⟨h', t', rfl, l, fun b o n e => k b o (fun q => n (hs b q)) e⟩
theorem keepsW_get {W : Addr → Prop} {s s' : Shared} (k : KeepsW W s s') {b : Addr} {o : Obj} (n : ¬ W b) (e : s.heap.get? b = some o) : s'.heap.get? b = some o := by
  obtain ⟨h', t', rfl, l, k⟩ := k
  exact k b o n e
theorem keepsW_le {W : Addr → Prop} {s s' : Shared} (k : KeepsW W s s') : @LE.le Nat _ s.toks s'.toks := by
  obtain ⟨h', t', rfl, l, k⟩ := k
  exact l
/-- what is written is new: nothing old is lost -/
theorem keeps_ofW {W : Addr → Prop} {s s' : Shared} (a : KeepsW W s s') (hn : ∀ b o, W b → s.heap.get? b = some o → False) : Keeps s s' := by
  obtain ⟨h', t', rfl, l, k⟩ := a
  exact ⟨h', t', rfl, l, fun b o e => k b o (fun q => hn b o q e) e⟩

theorem Is.keeps {X : Addr → Prop} {s s' : Shared} {v : Value} {d : D} (i : Is X s.heap v d) (k : Keeps s s') : Is X s'.heap v d :=
  i.mono fun _ _ n e => ⟨n, keeps_get k e⟩
theorem IsAll.keeps {X : Addr → Prop} {s s' : Shared} {v : List Value} {d : List D} (i : IsAll X s.heap v d) (k : Keeps s s') : IsAll X s'.heap v d :=
  i.mono fun _ _ n e => ⟨n, keeps_get k e⟩
theorem Is.keepsW {X W : Addr → Prop} {s s' : Shared} {v : Value} {d : D} (i : Is X s.heap v d) (k : KeepsW W s s') (hs : ∀ a, W a → X a) : Is X s'.heap v d :=
  i.mono fun _ _ n e => ⟨n, keepsW_get k (fun q => n (hs _ q)) e⟩
theorem IsAll.keepsW {X W : Addr → Prop} {s s' : Shared} {v : List Value} {d : List D} (i : IsAll X s.heap v d) (k : KeepsW W s s') (hs : ∀ a, W a → X a) : IsAll X s'.heap v d :=
  i.mono fun _ _ n e => ⟨n, keepsW_get k (fun q => n (hs _ q)) e⟩
theorem Is.less {X Y : Addr → Prop} {h : Heap} {v : Value} {d : D} (i : Is X h v d) (hs : ∀ a, Y a → X a) : Is Y h v d :=
  i.mono fun _ _ n e => ⟨fun q => n (hs _ q), e⟩
theorem IsAll.less {X Y : Addr → Prop} {h : Heap} {v : List Value} {d : List D} (i : IsAll X h v d) (hs : ∀ a, Y a → X a) : IsAll Y h v d :=
  i.mono fun _ _ n e => ⟨fun q => n (hs _ q), e⟩
/-- more addresses may be reserved, if the heap has nothing there -/
theorem Is.more {X Y : Addr → Prop} {h : Heap} {v : Value} {d : D} (i : Is X h v d) (hs : ∀ a, Y a → X a ∨ h.get? a = Option.none) : Is Y h v d :=
  i.mono fun b o n e => ⟨fun q => (hs _ q).elim n fun z => (by rw [z] at e; cases e), e⟩
theorem IsAll.more {X Y : Addr → Prop} {h : Heap} {v : List Value} {d : List D} (i : IsAll X h v d) (hs : ∀ a, Y a → X a ∨ h.get? a = Option.none) : IsAll Y h v d :=
  i.mono fun b o n e => ⟨fun q => (hs _ q).elim n fun z => (by rw [z] at e; cases e), e⟩
theorem get_none_of_le {h : Heap} {a : Addr} (l : h.objs.size ≤ a) : h.get? a = none := by
  cases e : h.get? a with
  | none => rfl
  | some o => exact absurd (Heap.lt_size e) (Nat.not_lt.mpr l)
theorem IsAll.length {X : Addr → Prop} {h : Heap} : ∀ {vs : List Value} {ds : List D}, IsAll X h vs ds → vs.length = ds.length
  | _, _, .nil => rfl
  | _, _, .cons _ r => by rw [List.length_cons, List.length_cons, IsAll.length r]
theorem IsAll.append {X : Addr → Prop} {h : Heap} : ∀ {vs : List Value} {ds : List D} {vs' : List Value} {ds' : List D}, IsAll X h vs ds → IsAll X h vs' ds' → IsAll X h (vs ++ vs') (ds ++ ds')
  | _, _, _, _, .nil, b => b
  | _, _, _, _, .cons a r, b => .cons a (IsAll.append r b)
theorem IsAll.get {X : Addr → Prop} {h : Heap} : ∀ {vs : List Value} {ds : List D}, IsAll X h vs ds → ∀ {i : Nat} {d : D}, ds[i]? = some d → ∃ v, vs[i]? = some v ∧ Is X h v d
  | _, _, .nil, i, d, e => by simp at e
  | _, _, .cons a r, 0, d, e => by simp at e; subst e; exact ⟨_, rfl, a⟩
  | _, _, .cons a r, i + 1, d, e => by
    simp only [List.getElem?_cons_succ] at e ⊢
    exact IsAll.get r e
theorem IsAll.drop {X : Addr → Prop} {h : Heap} : ∀ {vs : List Value} {ds : List D}, IsAll X h vs ds → ∀ (i : Nat), IsAll X h (vs.drop i) (ds.drop i)
  | _, _, a, 0 => a
  | _, _, .nil, i + 1 => .nil
  | _, _, .cons a r, i + 1 => IsAll.drop r i
theorem IsAll.take {X : Addr → Prop} {h : Heap} : ∀ {vs : List Value} {ds : List D}, IsAll X h vs ds → ∀ (i : Nat), IsAll X h (vs.take i) (ds.take i)
  | _, _, a, 0 => .nil
  | _, _, .nil, i + 1 => .nil
  | _, _, .cons a r, i + 1 => .cons a (IsAll.take r i)

/-- a context: what is around, the frame, the reserved addresses, those that may be written -/
structure Cx where
  A : Around
  env : Env
  X : Addr → Prop
  W : Addr → Prop

def HasVar (env : Env) (h : Heap) (x : Str) (v : Value) : Prop :=
  (env.kindOf x = some .local ∧ ∃ m, h.Ns env.locals m ∧ m x = some v) ∨ ((env.kindOf x = some .cell ∨ env.kindOf x = some .free) ∧ ∃ c, env.cells.lookup x = some c ∧ h.IsCell c (some v))
theorem HasVar.keeps {env : Env} {h h' : Heap} {x : Str} {v : Value} (H : HasVar env h x v) (k : ∀ b o, h.get? b = some o → h'.get? b = some o) : HasVar env h' x v := by
  rcases H with ⟨a, m, b, c⟩ | ⟨a, c, b, d⟩
  · exact .inl ⟨a, m, b.keeps k, c⟩
  · exact .inr ⟨a, c, b, d.keeps k⟩

abbrev Vs := List (Str × D)

structure Good (h₀ : Heap) (C : Cx) : Prop where
  fn : C.env.scope.kind = .function
  glob : C.env.globals = mainGlobals
  bi : C.env.builtins = builtinsNs
  hh : C.A.handled = none
  sub : ∀ a, C.W a → C.X a
  wnew : ∀ a, C.W a → h₀.get? a = none
  wloc : C.W C.env.locals
  apart : ∀ x y c, C.env.cells.lookup x = some c → C.env.cells.lookup y = some c → x = y
  cl : ∀ x, (C.env.kindOf x = some .cell ∨ C.env.kindOf x = some .free) → (C.env.cells.lookup x).isSome = true

structure Sat (h₀ : Heap) (C : Cx) (ρ : Vs) (s : Shared) : Prop where
  good : Good h₀ C
  gens : s.gens = #[]
  toks : @LE.le Nat _ 1 s.toks
  top : ∀ b o, h₀.get? b = some o → s.heap.get? b = some o
  alloc : ∀ a, C.X a → ∃ o, s.heap.get? a = some o
  loc : ∃ m, s.heap.Ns C.env.locals m
  cells : ∀ x c, C.env.cells.lookup x = some c → ∃ v, s.heap.IsCell c v
  vars : ∀ p ∈ ρ, ∃ v, Is C.X s.heap v p.2 ∧ HasVar C.env s.heap p.1 v

theorem Sat.keeps {h₀ : Heap} {C : Cx} {ρ : Vs} {s s' : Shared} (H : Sat h₀ C ρ s) (k : Keeps s s') : Sat h₀ C ρ s' := by
  have k' := k
  have kl := keeps_le k
  obtain ⟨h', t', rfl, _, kk⟩ := k'
  refine ⟨H.good, H.gens, Nat.le_trans H.toks kl, fun b o e => kk b o (H.top b o e), fun a xa => ?_, ?_, fun x c e => ?_, fun p hp => ?_⟩
  · obtain ⟨o, e⟩ := H.alloc a xa; exact ⟨o, kk a o e⟩
  · obtain ⟨m, e⟩ := H.loc; exact ⟨m, e.keeps kk⟩
  · obtain ⟨v, e'⟩ := H.cells x c e; exact ⟨v, e'.keeps kk⟩
  · obtain ⟨v, a, b⟩ := H.vars p hp; exact ⟨v, a.keeps k, b.keeps kk⟩
theorem Sat.sub {h₀ : Heap} {C : Cx} {ρ ρ' : Vs} {s : Shared} (H : Sat h₀ C ρ s) (hs : ∀ p ∈ ρ', p ∈ ρ) : Sat h₀ C ρ' s :=
  ⟨H.good, H.gens, H.toks, H.top, H.alloc, H.loc, H.cells, fun p hp => H.vars p (hs p hp)⟩
theorem Sat.fresh {h₀ : Heap} {C : Cx} {ρ : Vs} {s : Shared} (H : Sat h₀ C ρ s) : ¬ C.X s.heap.objs.size := fun q => by
  obtain ⟨o, e⟩ := H.alloc _ q
  exact Nat.lt_irrefl _ (Heap.lt_size e)

def no : Value → Shared → Prop := fun _ _ => False

section
variable {prog : Program} {w : World} {h₀ : Heap} {C : Cx} {ρ : Vs}

/-- the expression e comes to the data d, and changes nothing that stands -/
def EvD (prog : Program) (w : World) (h₀ : Heap) (C : Cx) (ρ : Vs) (e : Expr) (d : D) : Prop :=
  ∀ s, Sat h₀ C ρ s → wpAny (model prog w) C.A (eval e C.env) (fun v s' => Keeps s s' ∧ Is C.X s'.heap v d) no s
/-- the expression e comes to this very value -/
def EvV (prog : Program) (w : World) (h₀ : Heap) (C : Cx) (ρ : Vs) (e : Expr) (v : Value) : Prop :=
  ∀ s, Sat h₀ C ρ s → wpAny (model prog w) C.A (eval e C.env) (fun v' s' => Keeps s s' ∧ v' = v) no s
/-- the test e comes out as b -/
def TrD (prog : Program) (w : World) (h₀ : Heap) (C : Cx) (ρ : Vs) (e : Expr) (b : Bool) : Prop :=
  ∀ s, Sat h₀ C ρ s → wpAny (model prog w) C.A (isTrue e C.env (eval e C.env)) (fun b' s' => Keeps s s' ∧ b' = b) no s

theorem EvD.then {e : Expr} {d : D} (h : EvD prog w h₀ C ρ e d) {s : Shared} (H : Sat h₀ C ρ s) {Q : Value → Shared → Prop} {E : Value → Shared → Prop}
    (k : ∀ v s', Keeps s s' → Sat h₀ C ρ s' → Is C.X s'.heap v d → Q v s') : wpAny (model prog w) C.A (eval e C.env) Q E s :=
  wpAny_mono (h s H) (fun v s' z => k v s' z.1 (H.keeps z.1) z.2) fun _ _ z => z.elim
theorem EvV.then {e : Expr} {v : Value} (h : EvV prog w h₀ C ρ e v) {s : Shared} (H : Sat h₀ C ρ s) {Q : Value → Shared → Prop} {E : Value → Shared → Prop}
    (k : ∀ s', Keeps s s' → Sat h₀ C ρ s' → Q v s') : wpAny (model prog w) C.A (eval e C.env) Q E s :=
  wpAny_mono (h s H) (fun v s' z => by rw [z.2]; exact k s' z.1 (H.keeps z.1)) fun _ _ z => z.elim
theorem TrD.then {e : Expr} {b : Bool} (h : TrD prog w h₀ C ρ e b) {s : Shared} (H : Sat h₀ C ρ s) {Q : Bool → Shared → Prop} {E : Value → Shared → Prop}
    (k : ∀ s', Keeps s s' → Sat h₀ C ρ s' → Q b s') : wpAny (model prog w) C.A (isTrue e C.env (eval e C.env)) Q E s :=
  wpAny_mono (h s H) (fun v s' z => by rw [z.2]; exact k s' z.1 (H.keeps z.1)) fun _ _ z => z.elim
theorem EvD.eq {e : Expr} {d d' : D} (h : EvD prog w h₀ C ρ e d) (q : d = d') : EvD prog w h₀ C ρ e d' := q ▸ h
theorem TrD.eq {e : Expr} {d d' : Bool} (h : TrD prog w h₀ C ρ e d) (q : d = d') : TrD prog w h₀ C ρ e d' := q ▸ h
theorem EvD.sub {e : Expr} {d : D} {ρ' : Vs} (h : EvD prog w h₀ C ρ e d) (hs : ∀ p ∈ ρ, p ∈ ρ') : EvD prog w h₀ C ρ' e d := fun s H => h s (H.sub hs)

/-! names, constants -/
theorem ev_name {x : Str} {pos : Pos} {d : D} (hm : (x, d) ∈ ρ) (hd : (x == ("__debug__" : Str)) = false := by decide +kernel) (hn : (x == ("__classdict__" : Str)) = false := by decide +kernel) : EvD prog w h₀ C ρ (.Name x pos) d := fun s H => by
  obtain ⟨v, i, hv⟩ := H.vars _ hm
  refine wpAny_Name ?_ hd
  rcases hv with ⟨a, m, b, c⟩ | ⟨a | a, c, b, e⟩
  · exact wpAny_loadName_local H.good.fn a b c ⟨keeps_refl s, i⟩
  · exact wpAny_loadName_cell H.good.fn a b e ⟨keeps_refl s, i⟩
  · exact wpAny_loadName_free H.good.fn a b e ⟨keeps_refl s, i⟩ hn
theorem ev_int {i : Int} {k : Nat} {pos : Pos} : EvD prog w h₀ C ρ (.Constant (.int i) k pos) (.int i) := fun s _ => wpAny_Constant_int ⟨keeps_toks s _, .int _ _⟩
theorem ev_str {x : Str} {k : Nat} {pos : Pos} : EvD prog w h₀ C ρ (.Constant (.str x) k pos) (.str x) := fun s _ => wpAny_Constant_str ⟨keeps_toks s _, .str _ _⟩
theorem ev_bool {b : Bool} {k : Nat} {pos : Pos} : EvD prog w h₀ C ρ (.Constant (.bool b) k pos) (.bool b) := fun s _ => wpAny_Constant_bool ⟨keeps_refl s, .bool _⟩

theorem Is.int_inv {X : Addr → Prop} {h : Heap} {v : Value} {i : Int} (q : Is X h v (.int i)) : ∃ t, v = .int i t := by cases q; exact ⟨_, rfl⟩
theorem Is.str_inv {X : Addr → Prop} {h : Heap} {v : Value} {i : Str} (q : Is X h v (.str i)) : ∃ t, v = .str i t := by cases q; exact ⟨_, rfl⟩
theorem Is.bool_inv {X : Addr → Prop} {h : Heap} {v : Value} {i : Bool} (q : Is X h v (.bool i)) : v = .bool i := by cases q; rfl
theorem Is.list_inv {X : Addr → Prop} {h : Heap} {v : Value} {ds : List D} (q : Is X h v (.list ds)) : ∃ a vs n, v = .ref a ∧ ¬ X a ∧ h.get? a = some (listObj vs n) ∧ IsAll X h vs ds := by cases q; exact ⟨_, _, _, rfl, ‹_›, ‹_›, ‹_›⟩
theorem Is.tup_inv {X : Addr → Prop} {h : Heap} {v : Value} {ds : List D} (q : Is X h v (.tup ds)) : ∃ a vs n, v = .ref a ∧ ¬ X a ∧ h.get? a = some (tupObj vs n) ∧ IsAll X h vs ds := by cases q; exact ⟨_, _, _, rfl, ‹_›, ‹_›, ‹_›⟩

/-! two operands -/
theorem ev_bin {l r : Expr} {op : Operator} {pos : Pos} {a b d : D} (hl : EvD prog w h₀ C ρ l a) (hr : EvD prog w h₀ C ρ r b)
    (h : ∀ va vb s, Sat h₀ C ρ s → Is C.X s.heap va a → Is C.X s.heap vb b → wpAny (model prog w) C.A (binaryOp op va vb) (fun v s' => Keeps s s' ∧ Is C.X s'.heap v d) no s) : EvD prog w h₀ C ρ (.BinOp l op r pos) d := fun s H =>
  wpAny_BinOp (hl.then H fun va s₁ k₁ H₁ i₁ => hr.then H₁ fun vb s₂ k₂ H₂ i₂ => wpAny_mono (h va vb s₂ H₂ (i₁.keeps k₂) i₂) (fun _ _ z => ⟨keeps_trans k₁ (keeps_trans k₂ z.1), z.2⟩) fun _ _ z => z)
theorem ev_cmp {l r : Expr} {op : CmpOp} {pos : Pos} {a b d : D} (hl : EvD prog w h₀ C ρ l a) (hr : EvD prog w h₀ C ρ r b)
    (h : ∀ va vb s, Sat h₀ C ρ s → Is C.X s.heap va a → Is C.X s.heap vb b → wpAny (model prog w) C.A (compareOp op va vb) (fun v s' => Keeps s s' ∧ Is C.X s'.heap v d) no s)
    (hm : behindInMarks op r = false := by with_unfolding_all rfl) : EvD prog w h₀ C ρ (.Compare l [op] [r] pos) d := fun s H =>
  wpAny_Compare1 (hl.then H fun va s₁ k₁ H₁ i₁ => hr.then H₁ fun vb s₂ k₂ H₂ i₂ => wpAny_mono (h va vb s₂ H₂ (i₁.keeps k₂) i₂) (fun _ _ z => ⟨keeps_trans k₁ (keeps_trans k₂ z.1), z.2⟩) fun _ _ z => z) hm
theorem tr_cmp {l r : Expr} {op : CmpOp} {pos : Pos} {a b : D} {d : Bool} (hl : EvD prog w h₀ C ρ l a) (hr : EvD prog w h₀ C ρ r b)
    (h : ∀ va vb s, Sat h₀ C ρ s → Is C.X s.heap va a → Is C.X s.heap vb b → wpAny (model prog w) C.A (compareOp op va vb) (fun v s' => Keeps s s' ∧ Is C.X s'.heap v (.bool d)) no s)
    (hm : behindInMarks op r = false := by with_unfolding_all rfl) : TrD prog w h₀ C ρ (.Compare l [op] [r] pos) d := fun s H =>
  wpAny_isTrue_Compare1 (hl.then H fun va s₁ k₁ H₁ i₁ => hr.then H₁ fun vb s₂ k₂ H₂ i₂ => wpAny_mono (h va vb s₂ H₂ (i₁.keeps k₂) i₂) (fun v s₃ z => by
    rw [z.2.bool_inv]
    exact wpAny_truthy_bool ⟨keeps_trans k₁ (keeps_trans k₂ z.1), rfl⟩) fun _ _ z => z) hm

/-- what an operator makes of two data -/
def BinD (prog : Program) (w : World) (h₀ : Heap) (C : Cx) (ρ : Vs) (op : Operator) (a b d : D) : Prop :=
  ∀ va vb s, Sat h₀ C ρ s → Is C.X s.heap va a → Is C.X s.heap vb b → wpAny (model prog w) C.A (binaryOp op va vb) (fun v s' => Keeps s s' ∧ Is C.X s'.heap v d) no s
def CmpD (prog : Program) (w : World) (h₀ : Heap) (C : Cx) (ρ : Vs) (op : CmpOp) (a b : D) (d : Bool) : Prop :=
  ∀ va vb s, Sat h₀ C ρ s → Is C.X s.heap va a → Is C.X s.heap vb b → wpAny (model prog w) C.A (compareOp op va vb) (fun v s' => Keeps s s' ∧ Is C.X s'.heap v (.bool d)) no s

theorem bin_add_int {a b : Int} : BinD prog w h₀ C ρ .Add (.int a) (.int b) (.int (a + b)) := fun va vb s H ia ib => by
  obtain ⟨t, rfl⟩ := ia.int_inv; obtain ⟨u, rfl⟩ := ib.int_inv
  exact add_int ⟨keeps_toks s _, .int _ _⟩
theorem bin_sub_int {a b : Int} : BinD prog w h₀ C ρ .Sub (.int a) (.int b) (.int (a - b)) := fun va vb s H ia ib => by
  obtain ⟨t, rfl⟩ := ia.int_inv; obtain ⟨u, rfl⟩ := ib.int_inv
  exact sub_int' ⟨keeps_toks s _, .int _ _⟩
theorem bin_sub_bool {p q : Bool} : BinD prog w h₀ C ρ .Sub (.bool p) (.bool q) (.int ((if p then 1 else 0) - (if q then 1 else 0))) := fun va vb s H ia ib => by
  cases ia.bool_inv; cases ib.bool_inv
  refine sub_bool ⟨keeps_toks s _, ?_⟩
  cases p <;> cases q <;> exact .int _ _
theorem bin_add_str {x y : Str} (hsz : x.length + y.length ≤ sizeLine) : BinD prog w h₀ C ρ .Add (.str x) (.str y) (.str (x ++ y)) := fun va vb s H ia ib => by
  obtain ⟨t, rfl⟩ := ia.str_inv; obtain ⟨u, rfl⟩ := ib.str_inv
  exact up (PyProof.Rows.add_str (fun _ _ => ⟨keeps0_toks s _, .str _ _⟩) hsz)
theorem cmp_eq_int {a b : Int} : CmpD prog w h₀ C ρ .Eq (.int a) (.int b) (a == b) := fun va vb s H ia ib => by
  obtain ⟨t, rfl⟩ := ia.int_inv; obtain ⟨u, rfl⟩ := ib.int_inv
  exact PyProof.Rows.eq_int ⟨keeps_refl s, .bool _⟩
theorem cmp_lt_int {a b : Int} : CmpD prog w h₀ C ρ .Lt (.int a) (.int b) (decide (a < b)) := fun va vb s H ia ib => by
  obtain ⟨t, rfl⟩ := ia.int_inv; obtain ⟨u, rfl⟩ := ib.int_inv
  exact PyProof.Rows.lt_int ⟨keeps_refl s, .bool _⟩
theorem cmp_le_int {a b : Int} : CmpD prog w h₀ C ρ .LtE (.int a) (.int b) (decide (a ≤ b)) := fun va vb s H ia ib => by
  obtain ⟨t, rfl⟩ := ia.int_inv; obtain ⟨u, rfl⟩ := ib.int_inv
  exact PyProof.Rows.le_int ⟨keeps_refl s, .bool _⟩
theorem cmp_lt_str {a b : Str} : CmpD prog w h₀ C ρ .Lt (.str a) (.str b) (decide (a.cps.toList < b.cps.toList)) := fun va vb s H ia ib => by
  obtain ⟨t, rfl⟩ := ia.str_inv; obtain ⟨u, rfl⟩ := ib.str_inv
  exact PyProof.Rows.lt_str ⟨keeps_refl s, .bool _⟩
theorem cmp_eq_str {a b : Str} : CmpD prog w h₀ C ρ .Eq (.str a) (.str b) (a == b) := fun va vb s H ia ib => by
  obtain ⟨t, rfl⟩ := ia.str_inv; obtain ⟨u, rfl⟩ := ib.str_inv
  exact PyProof.Rows.eq_str ⟨keeps_refl s, .bool _⟩
end
end Mine

set_option Elab.async false
set_option linter.unusedVariables false
namespace Mine

/-! stores -/
def put (ρ : Vs) (x : Str) (d : D) : Vs := (x, d) :: ρ.filter fun p => !(p.1 == x)
theorem put_head {ρ : Vs} {x : Str} {d : D} : (x, d) ∈ put ρ x d := List.Mem.head _
theorem put_tail {ρ : Vs} {x y : Str} {d e : D} (h : (y == x) = false) (m : (y, e) ∈ ρ) : (y, e) ∈ put ρ x d :=
  List.Mem.tail _ (List.mem_filter.mpr ⟨m, by simp [h]⟩)
theorem put_inv {ρ : Vs} {x : Str} {d : D} {p : Str × D} (h : p ∈ put ρ x d) : p = (x, d) ∨ (p ∈ ρ ∧ p.1 ≠ x) := by
  rcases List.mem_cons.mp h with h | h
  · exact .inl h
  · obtain ⟨a, b⟩ := List.mem_filter.mp h
    exact .inr ⟨a, by simpa using b⟩

theorem Ns.ne_cell {h : Heap} {a c : Addr} {m : Str → Option Value} {v : Option Value} (n : h.Ns a m) (k : h.IsCell c v) : a ≠ c := by
  rintro rfl
  obtain ⟨o, es, ep, ho, hd, _⟩ := n
  obtain ⟨o', ho', hd'⟩ := k
  rw [ho] at ho'
  cases ho'
  rw [hd] at hd'
  cases hd'

section
variable {prog : Program} {w : World} {h₀ : Heap} {C : Cx} {ρ : Vs}

/-- a name may be stored into -/
def Stores (C : Cx) (x : Str) : Prop := C.env.kindOf x = some .local ∨ (C.env.kindOf x = some .cell ∧ ∃ c, C.env.cells.lookup x = some c ∧ C.W c)

theorem store_name {x : Str} {d : D} (hk : Stores C x) {s : Shared} {v : Value} (H : Sat h₀ C ρ s) (i : Is C.X s.heap v d) :
    wpAny (model prog w) C.A (storeName C.env x v) (fun _ s' => KeepsW C.W s s' ∧ Sat h₀ C (put ρ x d) s') no s := by
  obtain ⟨m, hm⟩ := H.loc
  rcases hk with hk | ⟨hk, c, hc, hw⟩
  · refine wpAny_storeName_local hk hm (fun h' hn hs => ?_) (by rw [H.good.fn]; rfl)
    have kw : KeepsW C.W s { s with heap := h', toks := s.toks + 1 } := ⟨h', _, rfl, Nat.le_add_right _ _, fun b o nb e => (hs.2 b (fun q => nb (q ▸ H.good.wloc))).trans e⟩
    refine ⟨kw, H.good, H.gens, Nat.le_trans H.toks (keepsW_le kw), fun b o e => keepsW_get kw (fun q => ?_) (H.top b o e), fun a xa => ?_, ⟨_, hn⟩, fun y c e => ?_, fun p hp => ?_⟩
    · rw [H.good.wnew b q] at e; cases e
    · by_cases ea : a = C.env.locals
      · obtain ⟨o, _, _, ho, _⟩ := hn; exact ⟨o, ea ▸ ho⟩
      · obtain ⟨o, e⟩ := H.alloc a xa; exact ⟨o, (hs.2 a ea).trans e⟩
    · obtain ⟨v', e'⟩ := H.cells y c e
      exact ⟨v', e'.sameBut hs (Ne.symm (Ns.ne_cell hm e'))⟩
    · rcases put_inv hp with rfl | ⟨hp, ne⟩
      · exact ⟨v, i.keepsW kw H.good.sub, .inl ⟨hk, _, hn, by simp⟩⟩
      · obtain ⟨v', i', hv⟩ := H.vars p hp
        refine ⟨v', i'.keepsW kw H.good.sub, ?_⟩
        rcases hv with ⟨a, m', b, e⟩ | ⟨a, c, b, e⟩
        · refine .inl ⟨a, _, hn, ?_⟩
          have : m p.1 = m' p.1 := by
            obtain ⟨o, es, ep, ho, hd, _, hf⟩ := hm
            obtain ⟨o', es', ep', ho', hd', _, hf'⟩ := b
            rw [ho] at ho'; cases ho'
            rw [hd] at hd'; cases hd'
            rw [← hf, ← hf']
          simp only [ne, if_false, this, e]
        · exact .inr ⟨a, c, b, e.sameBut hs (Ne.symm (Ns.ne_cell hm e))⟩
  · obtain ⟨v₀, h0⟩ := H.cells x c hc
    refine wpAny_storeName_cell H.good.fn hk hc h0 fun h' hn hs => ?_
    have kw : KeepsW C.W s { s with heap := h' } := ⟨h', _, rfl, Nat.le_refl _, fun b o nb e => (hs.2 b (fun q => nb (q ▸ hw))).trans e⟩
    have lne : C.env.locals ≠ c := Ns.ne_cell hm h0
    refine ⟨kw, H.good, H.gens, Nat.le_trans H.toks (keepsW_le kw), fun b o e => keepsW_get kw (fun q => ?_) (H.top b o e), fun a xa => ?_, ⟨m, hm.sameBut hs lne⟩, fun y c' e => ?_, fun p hp => ?_⟩
    · rw [H.good.wnew b q] at e; cases e
    · by_cases ea : a = c
      · obtain ⟨o, ho, _⟩ := hn; exact ⟨o, ea ▸ ho⟩
      · obtain ⟨o, e⟩ := H.alloc a xa; exact ⟨o, (hs.2 a ea).trans e⟩
    · by_cases ec : c' = c
      · exact ⟨_, ec ▸ hn⟩
      · obtain ⟨v', e'⟩ := H.cells y c' e
        exact ⟨v', e'.sameBut hs ec⟩
    · rcases put_inv hp with rfl | ⟨hp, ne⟩
      · exact ⟨v, i.keepsW kw H.good.sub, .inr ⟨.inl hk, c, hc, hn⟩⟩
      · obtain ⟨v', i', hv⟩ := H.vars p hp
        refine ⟨v', i'.keepsW kw H.good.sub, ?_⟩
        rcases hv with ⟨a, m', b, e⟩ | ⟨a, c', b, e⟩
        · exact .inl ⟨a, m', b.sameBut hs lne, e⟩
        · exact .inr ⟨a, c', b, e.sameBut hs fun q => ne (H.good.apart _ _ _ b (q ▸ hc))⟩

/-- assigning the data d to the target turns the variables ρ into ρ' -/
def AsgD (prog : Program) (w : World) (h₀ : Heap) (C : Cx) (ρ : Vs) (t : Expr) (d : D) (ρ' : Vs) : Prop :=
  ∀ v s, Sat h₀ C ρ s → Is C.X s.heap v d → wpAny (model prog w) C.A (assign t C.env v) (fun _ s' => KeepsW C.W s s' ∧ Sat h₀ C ρ' s') no s

theorem asg_name {x : Str} {pos : Pos} {d : D} (hk : Stores C x) : AsgD prog w h₀ C ρ (.Name x pos) d (put ρ x d) := fun v s H i =>
  wpAny_assign_Name (store_name hk H i)

theorem IsAll.two {X : Addr → Prop} {h : Heap} {vs : List Value} {a b : D} (q : IsAll X h vs [a, b]) : ∃ v u, vs = [v, u] ∧ Is X h v a ∧ Is X h u b := by
  cases q with
  | cons x r => cases r with
    | cons y r => cases r; exact ⟨_, _, rfl, x, y⟩

theorem isTuple_of {h : Heap} {a : Addr} {vs : List Value} {n : Nat} (e : h.get? a = some (tupObj vs n)) : h.IsTuple a vs.toArray := ⟨_, e, rfl, n, rfl⟩
theorem isTup_of {h : Heap} {a : Addr} {vs : List Value} {n : Nat} (e : h.get? a = some (tupObj vs n)) : IsTup h a vs.toArray := ⟨_, e, rfl, n, rfl⟩
theorem isList_of {h : Heap} {a : Addr} {vs : List Value} {n : Nat} (e : h.get? a = some (listObj vs n)) : h.IsList a vs.toArray := ⟨_, e, rfl, n, rfl⟩

theorem asg_two {x y : Str} {px py pos : Pos} {k : Nat} {a b : D} (hx : Stores C x) (hy : Stores C y) : AsgD prog w h₀ C ρ (.Tuple [.Name x px, .Name y py] k pos) (.tup [a, b]) (put (put ρ x a) y b) := fun v s H i => by
  obtain ⟨ad, vs, n, rfl, hX, ho, hs⟩ := i.tup_inv
  obtain ⟨v, u, rfl, iv, iu⟩ := hs.two
  refine wpAny_assign_Tuple H.good.hh (isTuple_of ho) rfl rfl fun h' he => ?_
  have k0 : Keeps s { s with heap := h' } := keeps_heap fun b o e => he b o (Nat.ne_of_lt (Heap.lt_size e)) e
  show wpAny _ _ (do holding [u] (assign (.Name x px) C.env v); holding [] (assign (.Name y py) C.env u); pure ()) _ _ _
  refine wpAny_bind (wpAny_holding (wpAny_assign_Name (wpAny_mono (store_name hx (H.keeps k0) (iv.keeps k0)) (fun _ s₁ h₁ => ?_) fun _ _ z => z)))
  refine wpAny_bind (wpAny_holding (wpAny_assign_Name (wpAny_mono (store_name hy h₁.2 ((iu.keeps k0).keepsW h₁.1 H.good.sub)) (fun _ s₂ h₂ => ?_) fun _ _ z => z)))
  exact wpAny_pure ⟨keepsW_trans (keepsW_of k0) (keepsW_trans h₁.1 h₂.1), h₂.2⟩

/-! iterators -/
def ownsTuples : List String := ["enumerate", "zip", "dict_itemiterator", "dict_reverseitemiterator", "odict_iterator", "itertools.zip_longest", "itertools.pairwise"]
structure ItAt (prog : Program) (w : World) (A : Around) (X : Addr → Prop) (I : Addr) (ds : List D) (h : Heap) : Prop where
  ex : ∃ (fp wr : List Addr) (n : Nat) (P : Nat → Value → Prop) (St : Nat → Heap → Prop) (i : Nat), Walks prog w A I fp wr n P St ∧ St i h ∧ (∀ b ∈ wr, b = I) ∧ (∀ b ∈ fp, b = I ∨ ¬ X b) ∧
    n = i + ds.length ∧ (∀ j d v, ds[j]? = some d → P (i + j) v → Is X h v d) ∧ ∀ i h, St i h → ∃ o n, h.get? I = some o ∧ o.cls = .type n ∧ ownsTuples.contains n = false ∧ ∃ fs, o.data = .fields fs
theorem ItAt.keep {A : Around} {X : Addr → Prop} {I : Addr} {ds : List D} {h h' : Heap} (q : ItAt prog w A X I ds h) (k : ∀ b o, (b = I ∨ ¬ X b) → h.get? b = some o → h'.get? b = some o) : ItAt prog w A X I ds h' := by
  obtain ⟨fp, wr, n, P, St, i, W, st, hw, hf, hn, hP, hc⟩ := q.ex
  exact ⟨fp, wr, n, P, St, i, W, W.frame i h h' st (fun b hb o e => k b o (hf b hb) e), hw, hf, hn, fun j d v e p => (hP j d v e p).mono fun b o nb e => ⟨nb, k b o (.inr nb) e⟩, hc⟩
theorem ItAt.next {A : Around} {X : Addr → Prop} {I : Addr} {ds : List D} {s : Shared} (hX : X I) (q : ItAt prog w A X I ds s.heap) :
    wpAny (model prog w) A (pyNext (.ref I)) (fun r s' => KeepsW (· = I) s s' ∧ match ds with
      | [] => r = none
      | d :: ds' => ∃ v, r = some v ∧ Is X s'.heap v d ∧ ItAt prog w A X I ds' s'.heap) no s := by
  obtain ⟨fp, wr, n, P, St, i, W, st, hw, hf, hn, hP, hc⟩ := q.ex
  refine wpAny_with_toks (n := s.toks) (Nat.le_refl _) ?_
  cases ds with
  | nil =>
    have : n = i := by simpa using hn
    subst this
    exact W.done s _ _ st fun h' tk hk l => ⟨⟨h', tk, rfl, l, fun b o nb e => hk b o (fun z => nb (hw b z)) e⟩, rfl⟩
  | cons d ds =>
    refine W.item i s _ _ (by simp at hn; omega) st fun v h' tk hv st' hk l => ?_
    have kw : KeepsW (· = I) s { s with heap := h', toks := tk } := ⟨h', tk, rfl, l, fun b o nb e => hk b o (fun z => nb (hw b z)) e⟩
    refine ⟨kw, v, rfl, (hP 0 d v rfl hv).keepsW kw fun a ea => by subst ea; exact hX, ⟨fp, wr, n, P, St, i + 1, W, st', hw, hf, ?_, fun j d' v' e p => ?_, hc⟩⟩
    · simp at hn; omega
    · refine (hP (j + 1) d' v' (by simpa using e) ?_).keepsW kw fun a ea => by subst ea; exact hX
      rw [show i + (j + 1) = i + 1 + j by omega]; exact p
theorem ItAt.self {A : Around} {X : Addr → Prop} {I : Addr} {ds : List D} {s : Shared} (q : ItAt prog w A X I ds s.heap) {Q : Value → Shared → Prop} {E : Value → Shared → Prop} (h : Q (.ref I) s) :
    wpAny (model prog w) A (pyIter (.ref I)) Q E s := by
  obtain ⟨fp, wr, n, P, St, i, W, st, _⟩ := q.ex
  exact W.self i s Q E st h
theorem ItAt.owned {A : Around} {X : Addr → Prop} {I : Addr} {ds : List D} {s : Shared} (q : ItAt prog w A X I ds s.heap) (t : Expr) (v : Value) {Q : Unit → Shared → Prop} {E : Value → Shared → Prop} (h : Q () s) :
    wpAny (model prog w) A (letOwnedTupleGo t (.ref I) v) Q E s := by
  obtain ⟨fp, wr, n, P, St, i, W, st, hw, hf, hn, hP, hc⟩ := q.ex
  obtain ⟨o, n, ho, hcl, hno, _⟩ := hc i _ st
  have key : wpAny (model prog w) A (do
    let (.ref r, .ref a) := (Value.ref I, v) | return
    let o ← load r
    match o.cls, o.data with
    | .type n, .fields vs =>
      if ["enumerate", "zip", "dict_itemiterator", "dict_reverseitemiterator", "odict_iterator", "itertools.zip_longest", "itertools.pairwise"].contains n && vs[0]? == some (rawInt a) then
        rule "for.unpacks-the-owned-tuple"
        updateField r 0 .none
    | _, _ => pure () : Sem Unit) Q E s := by
    cases v <;> first | exact wpAny_pure h | skip
    refine wpAny_bind (wpAny_load ho ?_)
    rw [hcl]
    cases o.data <;> first | exact wpAny_pure h | skip
    dsimp only
    unfold ownsTuples at hno
    rw [hno, Bool.false_and, if_neg Bool.false_ne_true]
    exact wpAny_pure h
  unfold letOwnedTupleGo
  split
  · exact key
  · exact key
  · exact wpAny_pure h

def intsFrom (lo : Int) : Nat → List D
  | 0 => []
  | n + 1 => .int lo :: intsFrom (lo + 1) n
theorem intsFrom_length (lo : Int) (n : Nat) : (intsFrom lo n).length = n := by
  induction n generalizing lo with
  | zero => rfl
  | succ n ih => simp [intsFrom, ih]
theorem intsFrom_get (lo : Int) (n j : Nat) (d : D) (e : (intsFrom lo n)[j]? = some d) : d = .int (lo + j) := by
  induction n generalizing lo j with
  | zero => simp [intsFrom] at e
  | succ n ih =>
    cases j with
    | zero => simp [intsFrom] at e; subst e; simp
    | succ j => simp only [intsFrom, List.getElem?_cons_succ] at e; rw [ih _ _ e]; congr 1; push_cast; omega

inductive IterD : D → List D → Prop
  | list (l : List D) : IterD (.list l) l
  | tup (l : List D) : IterD (.tup l) l
  | range {lo hi : Int} (n : Nat) (hs : Builtin.Range.small lo hi 1 = true) (hn : Builtin.Range.rangeSize lo hi 1 = n) : IterD (.range lo hi) (intsFrom lo n)
  | str (x : Str) : IterD (.str x) (x.cps.toList.map fun c => .str ⟨#[c]⟩)

theorem iter_D {A : Around} (hh : A.handled = none) {X : Addr → Prop} {s : Shared} {v : Value} {d : D} {ds : List D} (hX : ¬ X s.heap.objs.size) (hd : IterD d ds) (i : Is X s.heap v d) :
    wpAny (model prog w) A (pyIter v) (fun it s' => it = .ref s.heap.objs.size ∧ (∃ o, s' = { s with heap := s.heap.push o }) ∧ ∀ (A' : Around) (X' : Addr → Prop), A'.handled = none → (∀ a, X' a → X a ∨ @LE.le Nat _ s.heap.objs.size a) → ItAt prog w A' X' s.heap.objs.size ds s'.heap) no s := by
  have up : ∀ (X' : Addr → Prop) (hX' : ∀ a, X' a → X a ∨ @LE.le Nat _ s.heap.objs.size a) (o : Obj), ∀ {v : Value} {d : D}, Is X s.heap v d → Is X' (s.heap.push o) v d := fun X' hX' o v d q =>
    q.mono fun b o' nb e => ⟨fun z => (hX' b z).elim nb fun z => absurd (Heap.lt_size e) (Nat.not_lt.mpr z), Heap.get?_push_of_some _ e⟩
  cases hd with
  | list l =>
    obtain ⟨a, vs, n, rfl, ha, ho, hs⟩ := i.list_inv
    refine wpAny_pyIter_list (isList_of ho) ⟨rfl, ⟨_, rfl⟩, fun A' X' hA hX' => ⟨_, _, _, _, _, 0, Walks.list hA _ a (Nat.ne_of_lt (Heap.lt_size ho)) vs.toArray, ⟨⟨_, Heap.get?_push_size _ rfl, rfl, rfl⟩, (isList_of ho).push _⟩, by simp, ?_, ?_, ?_, ?_⟩⟩
    · intro b hb
      simp only [List.mem_cons, List.not_mem_nil, or_false] at hb
      rcases hb with rfl | rfl
      · exact .inl rfl
      · exact .inr fun z => (hX' _ z).elim ha fun z => absurd (Heap.lt_size ho) (Nat.not_lt.mpr z)
    · simp [hs.length]
    · intro j d v e p
      obtain ⟨v', e', i'⟩ := hs.get e
      simp only [Nat.zero_add, List.getElem?_toArray] at p
      rw [e'] at p; cases p
      exact up X' hX' _ i'
    · rintro i h ⟨⟨o, ho, hc, hd⟩, _⟩
      exact ⟨o, _, ho, hc, by decide, _, hd⟩
  | tup l =>
    obtain ⟨a, vs, n, rfl, ha, ho, hs⟩ := i.tup_inv
    refine wpAny_pyIter_tuple (isTuple_of ho) ⟨rfl, ⟨_, rfl⟩, fun A' X' hA hX' => ⟨_, _, _, _, _, 0, Walks.tuple hA _ a (Nat.ne_of_lt (Heap.lt_size ho)) vs.toArray, ⟨⟨_, Heap.get?_push_size _ rfl, rfl, rfl⟩, (isTuple_of ho).push _⟩, by simp, ?_, ?_, ?_, ?_⟩⟩
    · intro b hb
      simp only [List.mem_cons, List.not_mem_nil, or_false] at hb
      rcases hb with rfl | rfl
      · exact .inl rfl
      · exact .inr fun z => (hX' _ z).elim ha fun z => absurd (Heap.lt_size ho) (Nat.not_lt.mpr z)
    · simp [hs.length]
    · intro j d v e p
      obtain ⟨v', e', i'⟩ := hs.get e
      simp only [Nat.zero_add, List.getElem?_toArray] at p
      rw [e'] at p; cases p
      exact up X' hX' _ i'
    · rintro i h ⟨⟨o, ho, hc, hd⟩, _⟩
      exact ⟨o, _, ho, hc, by decide, _, hd⟩
  | @range lo hi n hs hn =>
    cases i with
    | range ha ho =>
      refine wpAny_pyIter_range ho hs ⟨rfl, ⟨_, rfl⟩, fun A' X' hA hX' => ⟨_, _, n, _, _, 0, Walks.range hA _ lo 1 n, ?_, by simp, by simp, by simp [intsFrom_length], ?_, ?_⟩⟩
      · simp only [Int.natCast_zero, Int.zero_mul, Int.add_zero, Int.sub_zero]
        rw [← hn]
        exact Heap.get?_push_size _ rfl
      · rintro j d v e ⟨t, rfl⟩
        rw [intsFrom_get _ _ _ _ e]
        simp only [Nat.zero_add, Int.mul_one]
        exact .int _ _
      · intro i h st
        exact ⟨_, _, st, rfl, by decide, _, rfl⟩
  | str x =>
    obtain ⟨t, rfl⟩ := i.str_inv
    cases ha : x.cps.all (· < 128)
    · refine wpAny_pyIter_wide ha ⟨rfl, ⟨_, rfl⟩, fun A' X' hA hX' => ⟨_, _, _, _, _, 0, Walks.strWide hA _ x t, ⟨_, Heap.get?_push_size _ rfl, rfl, rfl⟩, by simp, by simp, by simp, ?_, ?_⟩⟩
      · rintro j d v e ⟨c, u, hc, rfl⟩
        simp only [Nat.zero_add] at hc
        rw [List.getElem?_map, Array.getElem?_toList, hc] at e
        cases e; exact .str _ _
      · rintro i h ⟨o, ho, hc, hd⟩
        exact ⟨o, _, ho, hc, by decide, _, hd⟩
    · refine wpAny_pyIter_ascii ha ⟨rfl, ⟨_, rfl⟩, fun A' X' hA hX' => ⟨_, _, _, _, _, 0, Walks.strAscii hA _ x t, ⟨_, Heap.get?_push_size _ rfl, rfl, rfl⟩, by simp, by simp, by simp, ?_, ?_⟩⟩
      · rintro j d v e ⟨c, u, hc, rfl⟩
        simp only [Nat.zero_add] at hc
        rw [List.getElem?_map, Array.getElem?_toList, hc] at e
        cases e; exact .str _ _
      · rintro i h ⟨o, ho, hc, hd⟩
        exact ⟨o, _, ho, hc, by decide, _, hd⟩
end
end Mine

set_option Elab.async false
set_option linter.unusedVariables false
namespace Mine
section
variable {prog : Program} {w : World} {h₀ : Heap} {C : Cx} {ρ : Vs}

theorem ItAt.obj {A : Around} {X : Addr → Prop} {I : Addr} {ds : List D} {h : Heap} (q : ItAt prog w A X I ds h) : ∃ o fs, h.get? I = some o ∧ o.data = .fields fs := by
  obtain ⟨fp, wr, n, P, St, i, W, st, hw, hf, hn, hP, hc⟩ := q.ex
  obtain ⟨o, n, ho, _, _, fs, hd⟩ := hc i _ st
  exact ⟨o, fs, ho, hd⟩

theorem Ns.ne_of {h : Heap} {a b : Addr} {m : Str → Option Value} {o : Obj} (n : h.Ns a m) (e : h.get? b = some o) (hd : ∀ es k, o.data ≠ .dict es k) : a ≠ b := by
  rintro rfl
  obtain ⟨o', es, ep, ho, hd', _⟩ := n
  rw [ho] at e; cases e
  exact hd _ _ hd'
theorem IsCell.ne_of {h : Heap} {a b : Addr} {v : Option Value} {o : Obj} (n : h.IsCell a v) (e : h.get? b = some o) (hd : ∀ v, o.data ≠ .cell v) : a ≠ b := by
  rintro rfl
  obtain ⟨o', ho, hd'⟩ := n
  rw [ho] at e; cases e
  exact hd _ hd'
theorem Ns.keepsW {W : Addr → Prop} {s s' : Shared} {a : Addr} {m : Str → Option Value} (n : s.heap.Ns a m) (k : KeepsW W s s') (hn : ¬ W a) : s'.heap.Ns a m := by
  obtain ⟨o, es, ep, ho, r⟩ := n
  exact ⟨o, es, ep, keepsW_get k hn ho, r⟩
theorem IsCell.keepsW {W : Addr → Prop} {s s' : Shared} {a : Addr} {v : Option Value} (n : s.heap.IsCell a v) (k : KeepsW W s s') (hn : ¬ W a) : s'.heap.IsCell a v := by
  obtain ⟨o, ho, r⟩ := n
  exact ⟨o, keepsW_get k hn ho, r⟩

/-- an object that is no frame and no cell is written -/
theorem Sat.other {b : Addr} {o : Obj} {s s' : Shared} (H : Sat h₀ C ρ s) (e : s.heap.get? b = some o) (hd : ∀ es k, o.data ≠ .dict es k) (hc : ∀ v, o.data ≠ .cell v) (hX : C.X b) (h0 : h₀.get? b = none)
    (k : KeepsW (· = b) s s') (hb : ∃ o', s'.heap.get? b = some o') : Sat h₀ C ρ s' := by
  obtain ⟨m, hm⟩ := H.loc
  have gs : s'.gens = s.gens := by obtain ⟨h', t', rfl, _⟩ := k; rfl
  refine ⟨H.good, gs.trans H.gens, Nat.le_trans H.toks (keepsW_le k), fun a o' e' => keepsW_get k (fun q => ?_) (H.top a o' e'), fun a xa => ?_, ⟨m, Ns.keepsW hm k fun q => Ns.ne_of hm e hd q⟩, fun x c q => ?_, fun p hp => ?_⟩
  · subst q; rw [h0] at e'; cases e'
  · by_cases q : a = b
    · subst q; exact hb
    · obtain ⟨o', e'⟩ := H.alloc a xa; exact ⟨o', keepsW_get k q e'⟩
  · obtain ⟨v, hv⟩ := H.cells x c q
    exact ⟨v, IsCell.keepsW hv k fun q => IsCell.ne_of hv e hc q⟩
  · obtain ⟨v, i, hv⟩ := H.vars p hp
    refine ⟨v, i.keepsW k fun a q => by subst q; exact hX, ?_⟩
    rcases hv with ⟨a, m', b', c'⟩ | ⟨a, c', b', d'⟩
    · exact .inl ⟨a, m', Ns.keepsW b' k fun q => Ns.ne_of b' e hd q, c'⟩
    · exact .inr ⟨a, c', b', IsCell.keepsW d' k fun q => IsCell.ne_of d' e hc q⟩

def Cx.also (C : Cx) (I : Addr) : Cx := { C with X := fun a => C.X a ∨ a = I }
theorem Good.also (G : Good h₀ C) (I : Addr) : Good h₀ (C.also I) := ⟨G.fn, G.glob, G.bi, G.hh, fun a q => .inl (G.sub a q), G.wnew, G.wloc, G.apart, G.cl⟩
/-- an object new to the heap is reserved -/
theorem Sat.also {s : Shared} (H : Sat h₀ C ρ s) (o : Obj) (hf : o.isFreed = false) : Sat h₀ (C.also s.heap.objs.size) ρ { s with heap := s.heap.push o } := by
  have k := keeps_push s o
  have H' := H.keeps k
  refine ⟨H.good.also _, H'.gens, H'.toks, H'.top, fun a xa => ?_, H'.loc, H'.cells, fun p hp => ?_⟩
  · rcases xa with xa | rfl
    · exact H'.alloc a xa
    · exact ⟨o, Heap.get?_push_size _ hf⟩
  · obtain ⟨v, i, hv⟩ := H.vars p hp
    refine ⟨v, i.mono fun b o' nb e => ⟨fun z => z.elim nb fun z => ?_, keeps_get k e⟩, hv.keeps fun b o' e => keeps_get k e⟩
    rw [z] at e; exact Nat.lt_irrefl _ (Heap.lt_size e)
theorem Sat.also' {s : Shared} {I : Addr} (H : Sat h₀ (C.also I) ρ s) (G : Good h₀ C) : Sat h₀ C ρ s :=
  ⟨G, H.gens, H.toks, H.top, fun a xa => H.alloc a (.inl xa), H.loc, H.cells, fun p hp => let ⟨v, i, hv⟩ := H.vars p hp; ⟨v, i.less fun a q => .inl q, hv⟩⟩
/-- the iterator is done with -/
theorem Sat.alsoOut {s s' : Shared} {I : Addr} {o : Obj} (H : Sat h₀ (C.also I) ρ s) (G : Good h₀ C) (nX : ¬ C.X I) (e : s.heap.get? I = some o) (hd : ∀ es k, o.data ≠ .dict es k) (hc : ∀ v, o.data ≠ .cell v) (h0 : h₀.get? I = none)
    (k : KeepsW (· = I) s s') : Sat h₀ C ρ s' := by
  obtain ⟨m, hm⟩ := H.loc
  have gs : s'.gens = s.gens := by obtain ⟨h', t', rfl, _⟩ := k; rfl
  refine ⟨G, gs.trans H.gens, Nat.le_trans H.toks (keepsW_le k), fun a o' e' => keepsW_get k (fun q => ?_) (H.top a o' e'), fun a xa => ?_, ⟨m, Ns.keepsW hm k fun q => Ns.ne_of hm e hd q⟩, fun x c q => ?_, fun p hp => ?_⟩
  · subst q; rw [h0] at e'; cases e'
  · obtain ⟨o', e'⟩ := H.alloc a (.inl xa); exact ⟨o', keepsW_get k (fun q => nX (q ▸ xa)) e'⟩
  · obtain ⟨v, hv⟩ := H.cells x c q
    exact ⟨v, IsCell.keepsW hv k fun q => IsCell.ne_of hv e hc q⟩
  · obtain ⟨v, i, hv⟩ := H.vars p hp
    refine ⟨v, (i.keepsW k fun a q => .inr q).less fun a q => .inl q, ?_⟩
    rcases hv with ⟨a, m', b', c'⟩ | ⟨a, c', b', d'⟩
    · exact .inl ⟨a, m', Ns.keepsW b' k fun q => Ns.ne_of b' e hd q, c'⟩
    · exact .inr ⟨a, c', b', IsCell.keepsW d' k fun q => IsCell.ne_of d' e hc q⟩

/-- the list that a comprehension fills -/
def Fills (C : Cx) (acc : Addr) (out : List D) (h : Heap) : Prop := ∃ vs n, h.get? acc = some (listObj vs n) ∧ IsAll C.X h vs out
theorem Fills.keepsW {W : Addr → Prop} {acc : Addr} {out : List D} {s s' : Shared} (F : Fills C acc out s.heap) (k : KeepsW W s s') (hn : ¬ W acc) (hs : ∀ a, W a → C.X a) : Fills C acc out s'.heap := by
  obtain ⟨vs, n, e, i⟩ := F
  exact ⟨vs, n, keepsW_get k hn e, i.keepsW k hs⟩

def Keeps2 (W : Addr → Prop) (acc : Addr) : Shared → Shared → Prop := KeepsW fun a => W a ∨ a = acc

/-- one more item -/
theorem emit_D {acc : Addr} {out : List D} {elt : Expr} {d : D} {s : Shared} (H : Sat h₀ C ρ s) (F : Fills C acc out s.heap) (hX : C.X acc) (h0 : h₀.get? acc = none) (he : EvD prog w h₀ C ρ elt d) (hsz : out.length ≤ sizeLine) :
    wpAny (model prog w) C.A (do let _ ← call (.builtin "list.append") [.ref acc, ← eval elt C.env]) (fun _ s' => Sat h₀ C ρ s' ∧ Fills C acc (out ++ [d]) s'.heap ∧ KeepsW (· = acc) s s') no s := by
  refine wpAny_bind (he.then H fun v s₁ k₁ H₁ i₁ => wpAny_bind ?_)
  obtain ⟨vs, n, e, i⟩ := F
  have e₁ := keeps_get k₁ e
  refine wpAny_list_append_plain ⟨n, e₁⟩ (fun h' hp hs => wpAny_pure ?_) (by rw [List.size_toArray, i.length]; exact hsz)
  obtain ⟨n', e'⟩ := hp
  have kw : KeepsW (· = acc) s₁ { s₁ with heap := h' } := ⟨h', _, rfl, Nat.le_refl _, fun b o nb eb => (hs.2 b nb).trans eb⟩
  have e'' : h'.get? acc = some (listObj (vs ++ [v]) n') := by rw [e']; simp [listObj]
  refine ⟨H₁.other e₁ (fun _ _ q => by cases q) (fun _ q => by cases q) hX h0 kw ⟨_, e'⟩, ⟨vs ++ [v], n', e'', ?_⟩, keepsW_trans (keepsW_of k₁) kw⟩
  exact ((i.keeps k₁).keepsW kw fun a q => by subst q; exact hX).append (.cons (i₁.keepsW kw fun a q => by subst q; exact hX) .nil)

/-- a turn's tests -/
def compOk (ifs : List Expr) (env : Env) : Sem Bool := forIn ifs true fun c r => if r = true then do let ok ← isTrue c env (eval c env); pure (ForInStep.yield ok) else pure (ForInStep.yield r)
def IfsD (prog : Program) (w : World) (h₀ : Heap) (C : Cx) (ρ : Vs) (ifs : List Expr) (b : Bool) : Prop := match ifs with
  | [] => b = true
  | [c] => TrD prog w h₀ C ρ c b
  | _ => False
theorem ifs_D {ifs : List Expr} {b : Bool} {s : Shared} (H : Sat h₀ C ρ s) (h : IfsD prog w h₀ C ρ ifs b) : wpAny (model prog w) C.A (compOk ifs C.env) (fun ok s' => ok = b ∧ Keeps s s') no s := by
  unfold compOk
  match ifs, h with
  | [], h => exact wpAny_tests_nil ⟨h.symm, keeps_refl s⟩
  | [c], h => exact wpAny_tests_one (TrD.then h H fun s' k _ => ⟨rfl, k⟩)

/-- what a turn does behind the assignment -/
def InnerD (prog : Program) (w : World) (h₀ : Heap) (C : Cx) (ρ : Vs) (acc : Addr) (inner : Sem Unit) (f : List D) : Prop :=
  ∀ out s, Sat h₀ C ρ s → Fills C acc out s.heap → out.length + f.length ≤ sizeLine →
    wpAny (model prog w) C.A inner (fun _ s' => Sat h₀ C ρ s' ∧ Fills C acc (out ++ f) s'.heap ∧ Keeps2 C.W acc s s') no s

theorem inner_emit {acc : Addr} {elt : Expr} {d : D} (hX : C.X acc) (h0 : h₀.get? acc = none) (he : EvD prog w h₀ C ρ elt d) : InnerD prog w h₀ C ρ acc (do let _ ← call (.builtin "list.append") [.ref acc, ← eval elt C.env]) [d] := fun out s H F hsz =>
  wpAny_mono (emit_D H F hX h0 he (by simp at hsz; omega)) (fun _ _ z => ⟨z.1, z.2.1, keepsW_mono (fun a q => .inr q) z.2.2⟩) fun _ _ z => z

def turnTree (p : Pos) (target : Expr) (ifs : List Expr) (inner : Sem Unit) (I : Addr) (env : Env) (c : Code) : Sem Fin := do
  standAt p
  match ← pyNext (.ref I) with
  | none => pure (.done .next)
  | some v =>
    letOwnedTupleGo target (.ref I) v
    assign target env v
    let ok ← compOk ifs env
    if ok then inner
    again c

/-- the loop of a comprehension, whatever its turn does -/
theorem loop_D {α : Type} {elt : Expr} {gens : List Comprehension} {scope : Scope} {pos p : Pos} {k : Nat} {I acc : Addr} {target : Expr} {ifs : List Expr} {inner : Sem Unit} (inj : α → D) (f : α → List D)
    (G : Good h₀ C) (hturn : compTurn (.ListComp elt gens scope pos) k (.ref I) (.ref acc) C.env = turnTree p target ifs inner I C.env (.compLoop (.ListComp elt gens scope pos) k (.ref I) (.ref acc) C.env))
    (hXa : C.X acc) (hWa : ¬ C.W acc) (h0a : h₀.get? acc = none) (hXI : ¬ C.X I) (h0I : h₀.get? I = none)
    (xs : List α) (hbody : ∀ x ∈ xs, ∃ ρ' b, AsgD prog w h₀ (C.also I) ρ target (inj x) ρ' ∧ (∀ q ∈ ρ, q ∈ ρ') ∧ IfsD prog w h₀ (C.also I) ρ' ifs b ∧
      (b = true → InnerD prog w h₀ (C.also I) ρ' acc inner (f x)) ∧ (b = false → f x = [])) :
    ∀ (out : List D) (s : Shared) (R : Result → Shared → Prop), Sat h₀ (C.also I) ρ s → Fills (C.also I) acc out s.heap → ItAt prog w C.A (C.also I).X I (xs.map inj) s.heap → out.length + (xs.flatMap f).length ≤ sizeLine →
      (∀ s', Sat h₀ C ρ s' → Fills C acc (out ++ xs.flatMap f) s'.heap → KeepsW (fun a => C.W a ∨ a = acc ∨ a = I) s s' → R (.ok .next) s') →
      codeAny (model prog w) C.A (.compLoop (.ListComp elt gens scope pos) k (.ref I) (.ref acc) C.env) R s := by
  have hWI : ¬ C.W I := fun q => hXI (G.sub _ q)
  have hne : acc ≠ I := fun q => hXI (q ▸ hXa)
  induction xs with
  | nil =>
    intro out s R H F T hsz hR
    refine codeAny_of_tree ?_
    show wpAny _ C.A ((compTurn (.ListComp elt gens scope pos) k (.ref I) (.ref acc) C.env).onRaise (fun x => do noteFrame x C.env; theTreesLotGoes x)) _ _ s
    refine wpAny_noted ?_
    rw [hturn]
    unfold turnTree
    refine wpAny_bind (wpAny_standAt (wpAny_bind (wpAny_mono (T.next (.inr rfl)) (fun r s₁ z => ?_) fun _ _ z => z.elim)))
    obtain ⟨k₁, rfl⟩ := z
    obtain ⟨o, fs, ho, hd⟩ := T.obj
    refine wpAny_pure (hR s₁ (H.alsoOut G hXI ho (by rw [hd]; intro _ _ q; cases q) (by rw [hd]; intro _ q; cases q) h0I k₁) ?_ (keepsW_mono (fun a q => .inr (.inr q)) k₁))
    obtain ⟨vs, n, e, i⟩ := F.keepsW k₁ hne fun a q => .inr q
    exact ⟨vs, n, e, by simpa using i.less fun a q => Or.inl q⟩
  | cons x xs ih =>
    intro out s R H F T hsz hR
    refine codeAny_of_tree ?_
    show wpAny _ C.A ((compTurn (.ListComp elt gens scope pos) k (.ref I) (.ref acc) C.env).onRaise (fun x => do noteFrame x C.env; theTreesLotGoes x)) _ _ s
    refine wpAny_noted ?_
    rw [hturn]
    unfold turnTree
    refine wpAny_bind (wpAny_standAt (wpAny_bind (wpAny_mono (T.next (.inr rfl)) (fun r s₁ z => ?_) fun _ _ z => z.elim)))
    obtain ⟨k₁, v, rfl, i₁, T₁⟩ := z
    obtain ⟨o, fs, ho, hd⟩ := T.obj
    obtain ⟨o₁, fs₁, ho₁, hd₁⟩ := T₁.obj
    have H₁ : Sat h₀ (C.also I) ρ s₁ := H.other ho (by rw [hd]; intro _ _ q; cases q) (by rw [hd]; intro _ q; cases q) (.inr rfl) h0I k₁ ⟨_, ho₁⟩
    have F₁ := F.keepsW k₁ hne fun a q => .inr q
    refine wpAny_bind (T₁.owned target v ?_)
    obtain ⟨ρ', b, ha, hρ, ht, hin, hno⟩ := hbody x (.head _)
    refine wpAny_bind (wpAny_mono (ha v s₁ H₁ i₁) (fun _ s₂ z => ?_) fun _ _ z => z.elim)
    obtain ⟨k₂, H₂⟩ := z
    have F₂ := F₁.keepsW k₂ hWa fun a q => .inl (G.sub a q)
    refine wpAny_bind (wpAny_mono (ifs_D (C := C.also I) H₂ ht) (fun ok s₃ z => ?_) fun _ _ z => z.elim)
    obtain ⟨rfl, k₃⟩ := z
    have H₃ := H₂.keeps k₃
    have F₃ : Fills (C.also I) acc out s₃.heap := by obtain ⟨vs, n, e, i⟩ := F₂; exact ⟨vs, n, keeps_get k₃ e, i.keeps k₃⟩
    have k13 : KeepsW C.W s₁ s₃ := keepsW_trans k₂ (keepsW_of k₃)
    have go : ∀ s₄, Sat h₀ (C.also I) ρ' s₄ → Fills (C.also I) acc (out ++ f x) s₄.heap → Keeps2 C.W acc s₃ s₄ → codeAny (model prog w) C.A (.compLoop (.ListComp elt gens scope pos) k (.ref I) (.ref acc) C.env) R s₄ := by
      intro s₄ H₄ F₄ k₄
      have k14 : KeepsW (fun a => C.W a ∨ a = acc) s₁ s₄ := keepsW_trans (keepsW_mono (fun a q => .inl q) k13) k₄
      refine ih (fun y hy => hbody y (.tail _ hy)) (out ++ f x) s₄ R (H₄.sub hρ) F₄ (T₁.keep fun b o hb e => keepsW_get k14 ?_ e) (by simp only [List.flatMap_cons, List.length_append] at hsz ⊢; omega) fun s' Hs Fs ks => ?_
      · rintro (q | rfl)
        · rcases hb with rfl | hb
          · exact hWI q
          · exact hb (.inl (G.sub _ q))
        · rcases hb with rfl | hb
          · exact hne rfl
          · exact hb (.inl hXa)
      · refine hR s' Hs (by simpa only [List.flatMap_cons, List.append_assoc] using Fs) ?_
        exact keepsW_trans (keepsW_mono (fun a q => .inr (.inr q)) k₁) (keepsW_trans (keepsW_mono (fun a q => q.elim .inl fun q => .inr (.inl q)) k14) ks)
    cases ok with
    | false =>
      refine wpAny_pure ⟨rfl, go s₃ H₃ ?_ (keepsW_refl _ _)⟩
      rw [hno rfl, List.append_nil]; exact F₃
    | true =>
      refine wpAny_bind (wpAny_mono (hin rfl out s₃ H₃ F₃ (by simp only [List.flatMap_cons, List.length_append] at hsz; omega)) (fun _ s₄ z => ?_) fun _ _ z => z.elim)
      exact wpAny_pure ⟨rfl, go s₄ z.1 z.2.1 z.2.2⟩
end
end Mine

set_option Elab.async false
set_option linter.unusedVariables false
namespace Mine

/-! the frame of a comprehension -/
def clos (env : Env) : List (Str × NameKind) → List (Str × Addr) → List (Str × Addr)
  | [], acc => acc
  | (n, k) :: r, acc => clos env r (if k == .free then match env.cells.lookup n with | some a => (n, a) :: acc | none => acc else acc)
theorem clos_eq (env : Env) (scope : Scope) (h : ∀ p ∈ scope.names, p.2 = .free → (env.cells.lookup p.1).isSome = true) : closureFor scope env = pure (clos env scope.names []) := by
  have key : ∀ (names : List (Str × NameKind)) (acc : List (Str × Addr)), (∀ p ∈ names, p.2 = .free → (env.cells.lookup p.1).isSome = true) →
      (forIn names acc fun (x : Str × NameKind) (r : List (Str × Addr)) => (if x.2 == .free then do let a ← cellOf env x.1; pure (ForInStep.yield ((x.1, a) :: r)) else pure (ForInStep.yield r) : Sem (ForInStep (List (Str × Addr))))) = pure (clos env names acc) := by
    intro names
    induction names with
    | nil => intro acc _; rfl
    | cons x r ih =>
      intro acc hx
      obtain ⟨n, k⟩ := x
      rw [List.forIn_cons]
      by_cases hk : k = .free
      · subst hk
        obtain ⟨a, ha⟩ := Option.isSome_iff_exists.mp (hx _ (.head _) rfl)
        simp only at ha
        have e : cellOf env n = pure a := by unfold cellOf; rw [ha]
        simp only [beq_self_eq_true, if_true, e, pure_bind]
        rw [ih _ fun p hp => hx p (.tail _ hp)]
        simp only [clos, beq_self_eq_true, if_true, ha]
      · have hb : (k == NameKind.free) = false := by simpa using hk
        simp only [hb, Bool.false_eq_true, if_false, pure_bind]
        rw [ih _ fun p hp => hx p (.tail _ hp)]
        simp only [clos, hb, Bool.false_eq_true, if_false]
  unfold closureFor
  have := key scope.names [] h
  simp only [bind_pure]
  exact this
theorem clos_lookup (env : Env) : ∀ (names : List (Str × NameKind)) (acc : List (Str × Addr)), (∀ x c, acc.lookup x = some c → env.cells.lookup x = some c) → ∀ x c, (clos env names acc).lookup x = some c → env.cells.lookup x = some c
  | [], acc, ha, x, c, h => ha x c h
  | (n, k) :: r, acc, ha, x, c, h => by
    unfold clos at h
    refine clos_lookup env r _ (fun y b hy => ?_) x c h
    split at hy
    · split at hy
      · rename_i a e
        rw [List.lookup_cons] at hy
        split at hy
        · rename_i q; cases hy; rw [beq_iff_eq.mp q]; exact e
        · exact ha y b hy
      · exact ha y b hy
    · exact ha y b hy
theorem clos_some (env : Env) (x : Str) : ∀ (names : List (Str × NameKind)) (acc : List (Str × Addr)), ((acc.lookup x).isSome = true ∨ ((x, NameKind.free) ∈ names ∧ (env.cells.lookup x).isSome = true)) → ((clos env names acc).lookup x).isSome = true
  | [], acc, h => by rcases h with h | h; exact h; exact absurd h.1 (by simp)
  | (n, k) :: r, acc, h => by
    unfold clos
    refine clos_some env x r _ ?_
    rcases h with h | ⟨h, h'⟩
    · left
      split
      · split
        · rw [List.lookup_cons]; split; rfl; exact h
        · exact h
      · exact h
    · rcases List.mem_cons.mp h with q | q
      · left
        cases q
        obtain ⟨a, ha⟩ := Option.isSome_iff_exists.mp h'
        simp only [beq_self_eq_true, if_true, ha, List.lookup_cons]
        rfl
      · exact .inr ⟨q, h'⟩

theorem pushCells_size : ∀ (names : List (Str × NameKind)) (h : Heap), h.objs.size ≤ (pushCells h names).objs.size
  | [], _ => Nat.le_refl _
  | (_, k) :: r, h => by
    unfold pushCells
    split
    · exact Nat.le_trans (by rw [Heap.size_push]; omega) (pushCells_size r _)
    · exact pushCells_size r h
theorem cellsFrom_cell {P : Str → Addr → Prop} : ∀ (names : List (Str × NameKind)) (h : Heap) (acc : List (Str × Addr)) (lo : Nat) (x : Str) (c : Addr), lo ≤ h.objs.size →
    (∀ x c, acc.lookup x = some c → P x c ∨ (h.IsCell c none ∧ lo ≤ c)) → (cellsFrom h.objs.size names acc).lookup x = some c → P x c ∨ ((pushCells h names).IsCell c none ∧ lo ≤ c)
  | [], h, acc, lo, x, c, _, ha, e => ha x c e
  | (n, k) :: r, h, acc, lo, x, c, hl, ha, e => by
    unfold cellsFrom at e
    unfold pushCells
    split at e
    · rename_i hk
      rw [if_pos hk]
      have hsz : (h.push { cls := .type "cell", data := .cell none }).objs.size = h.objs.size + 1 := Heap.size_push ..
      refine cellsFrom_cell r (h.push { cls := .type "cell", data := .cell none }) ((n, h.objs.size) :: acc) lo x c (by rw [hsz]; omega) (fun y b hy => ?_) (by rw [hsz]; exact e)
      rw [List.lookup_cons] at hy
      split at hy
      · cases hy; exact .inr ⟨⟨_, Heap.get?_push_size _ rfl, rfl⟩, hl⟩
      · exact (ha y b hy).imp id fun q => ⟨q.1.keeps fun b o e => Heap.get?_push_of_some _ e, q.2⟩
    · rename_i hk
      rw [if_neg hk]
      exact cellsFrom_cell r h acc lo x c hl ha e
theorem cellsFrom_apart : ∀ (names : List (Str × NameKind)) (n : Nat) (acc : List (Str × Addr)), (∀ x c, acc.lookup x = some c → c < n) → (∀ x y c, acc.lookup x = some c → acc.lookup y = some c → x = y) →
    ∀ x y c, (cellsFrom n names acc).lookup x = some c → (cellsFrom n names acc).lookup y = some c → x = y
  | [], n, acc, _, ha, x, y, c, e, e' => ha x y c e e'
  | (m, k) :: r, n, acc, hl, ha, x, y, c, e, e' => by
    unfold cellsFrom at e e'
    split at e
    · rename_i hk
      rw [if_pos hk] at e'
      refine cellsFrom_apart r (n + 1) ((m, n) :: acc) (fun z d hz => ?_) (fun z u d hz hu => ?_) x y c e e'
      · rw [List.lookup_cons] at hz
        split at hz
        · cases hz; exact Nat.lt_succ_self _
        · exact Nat.lt_succ_of_lt (hl z d hz)
      · rw [List.lookup_cons] at hz hu
        split at hz <;> split at hu
        · rename_i _ p _ q; rw [beq_iff_eq.mp p, beq_iff_eq.mp q]
        · cases hz; exact absurd (hl u _ hu) (Nat.lt_irrefl _)
        · cases hu; exact absurd (hl z _ hz) (Nat.lt_irrefl _)
        · exact ha z u d hz hu
    · rename_i hk
      rw [if_neg hk] at e'
      exact cellsFrom_apart r n acc hl ha x y c e e'
theorem cellsFrom_skip (x : Str) : ∀ (names : List (Str × NameKind)) (n : Nat) (acc : List (Str × Addr)), (∀ p ∈ names, p.1 = x → p.2 ≠ .cell) → (cellsFrom n names acc).lookup x = acc.lookup x
  | [], n, acc, _ => rfl
  | (m, k) :: r, n, acc, h => by
    unfold cellsFrom
    split
    · rename_i hk
      rw [cellsFrom_skip x r _ _ fun p hp => h p (.tail _ hp), List.lookup_cons]
      split
      · rename_i q
        exact absurd (beq_iff_eq.mp hk) (h (m, k) (.head _) (beq_iff_eq.mp q).symm)
      · rfl
    · exact cellsFrom_skip x r n acc fun p hp => h p (.tail _ hp)
theorem cellsFrom_has (x : Str) : ∀ (names : List (Str × NameKind)) (n : Nat) (acc : List (Str × Addr)), ((x, NameKind.cell) ∈ names ∨ (acc.lookup x).isSome = true) → ((cellsFrom n names acc).lookup x).isSome = true
  | [], n, acc, h => by rcases h with h | h; exact absurd h (by simp); exact h
  | (m, k) :: r, n, acc, h => by
    unfold cellsFrom
    split
    · rename_i hk
      refine cellsFrom_has x r _ _ ?_
      rcases h with h | h
      · rcases List.mem_cons.mp h with q | q
        · cases q; right; simp
        · exact .inl q
      · right; rw [List.lookup_cons]; split; rfl; exact h
    · rename_i hk
      refine cellsFrom_has x r _ _ ?_
      rcases h with h | h
      · rcases List.mem_cons.mp h with q | q
        · cases q; simp at hk
        · exact .inl q
      · exact .inr h

/-- the variables that a comprehension sees -/
def freeIn (scope : Scope) (x : Str) : Bool := scope.names.all (fun q => !(q.1 == x) || q.2 == .free) && scope.names.any (fun q => q.1 == x)
def capt (scope : Scope) (env : Env) (ρ : Vs) : Vs := ρ.filter fun p => freeIn scope p.1 && (env.kindOf p.1 == some .cell || env.kindOf p.1 == some .free)
theorem capt_mem {scope : Scope} {env : Env} {ρ : Vs} {x : Str} {d : D} (hf : freeIn scope x = true) (hk : (env.kindOf x == some .cell || env.kindOf x == some .free) = true) (m : (x, d) ∈ ρ) : (x, d) ∈ capt scope env ρ :=
  List.mem_filter.mpr ⟨m, by simp only [hf, hk, Bool.and_self]⟩
theorem freeIn_mem {scope : Scope} {x : Str} (h : freeIn scope x = true) : (x, NameKind.free) ∈ scope.names ∧ ∀ p ∈ scope.names, p.1 = x → p.2 = .free := by
  unfold freeIn at h
  simp only [Bool.and_eq_true, List.all_eq_true, List.any_eq_true, Bool.or_eq_true, Bool.not_eq_true', beq_iff_eq, beq_eq_false_iff_ne, ne_eq] at h
  obtain ⟨h1, ⟨y, k⟩, hy, rfl⟩ := h
  refine ⟨?_, fun p hp e => (h1 p hp).resolve_left fun q => q e⟩
  have := (h1 _ hy).resolve_left fun q => q rfl
  simp only at this
  rw [← this]; exact hy
theorem lookup_relabel_free {env : Env} : ∀ {names : List (Str × NameKind)} {x : Str}, (x, NameKind.free) ∈ names → (∀ p ∈ names, p.1 = x → p.2 = NameKind.free) →
    (names.map fun (n, k) => if (k == NameKind.free && env.scope.kind == .function && env.kindOf n == some .cell) then (n, NameKind.cell) else (n, k)).lookup x = some .cell ∨
    (names.map fun (n, k) => if (k == NameKind.free && env.scope.kind == .function && env.kindOf n == some .cell) then (n, NameKind.cell) else (n, k)).lookup x = some .free
  | [], _, h, _ => by simp at h
  | (n, k) :: r, x, h, hu => by
    show List.lookup x ((if (k == NameKind.free && env.scope.kind == .function && env.kindOf n == some .cell) = true then (n, NameKind.cell) else (n, k)) :: _) = _ ∨ List.lookup x ((if (k == NameKind.free && env.scope.kind == .function && env.kindOf n == some .cell) = true then (n, NameKind.cell) else (n, k)) :: _) = _
    by_cases hx : x = n
    · subst hx
      have hk : k = .free := hu (x, k) (.head _) rfl
      subst hk
      split
      · left; simp [List.lookup_cons]
      · right; simp [List.lookup_cons]
    · have hb : (x == n) = false := by simpa using hx
      have ih := lookup_relabel_free (env := env) (names := r) (x := x) ((List.mem_cons.mp h).resolve_left fun q => hx (by cases q; rfl)) fun p hp => hu p (.tail _ hp)
      split <;> simp only [List.lookup_cons, hb] <;> exact ih
theorem lookup_relabel_cell {env : Env} : ∀ {names : List (Str × NameKind)} {x : Str}, names.lookup x = some .cell →
    (names.map fun (n, k) => if (k == NameKind.free && env.scope.kind == .function && env.kindOf n == some .cell) then (n, NameKind.cell) else (n, k)).lookup x = some .cell
  | [], _, h => by simp at h
  | (n, k) :: r, x, h => by
    have ih := @lookup_relabel_cell env r x
    show List.lookup x ((if (k == NameKind.free && env.scope.kind == .function && env.kindOf n == some .cell) = true then (n, NameKind.cell) else (n, k)) :: _) = _
    cases hx : x == n with
    | true =>
      simp only [List.lookup_cons, hx] at h
      cases h
      simp [List.lookup_cons, hx]
    | false =>
      simp only [List.lookup_cons, hx] at h
      split <;> simp only [List.lookup_cons, hx] <;> exact ih h
/-- a name that the comprehension's own table calls a cell or free -/
theorem relabel_inv {env : Env} : ∀ {names : List (Str × NameKind)} {x : Str},
    ((names.map fun (n, k) => if (k == NameKind.free && env.scope.kind == .function && env.kindOf n == some .cell) then (n, NameKind.cell) else (n, k)).lookup x = some .cell ∨
    (names.map fun (n, k) => if (k == NameKind.free && env.scope.kind == .function && env.kindOf n == some .cell) then (n, NameKind.cell) else (n, k)).lookup x = some .free) → (x, NameKind.cell) ∈ names ∨ (x, NameKind.free) ∈ names
  | [], _, h => by simp at h
  | (n, k) :: r, x, h => by
    have ih := @relabel_inv env r x
    change (List.lookup x ((if (k == NameKind.free && env.scope.kind == .function && env.kindOf n == some .cell) = true then (n, NameKind.cell) else (n, k)) :: _) = _ ∨ List.lookup x ((if (k == NameKind.free && env.scope.kind == .function && env.kindOf n == some .cell) = true then (n, NameKind.cell) else (n, k)) :: _) = _) at h
    by_cases hx : x = n
    · subst hx
      split at h
      · rename_i hc
        simp only [Bool.and_eq_true, beq_iff_eq] at hc
        rw [hc.1.1]; exact .inr (.head _)
      · simp only [List.lookup_cons, beq_self_eq_true, Option.some.injEq] at h
        rcases h with h | h <;> rw [h]
        · exact .inl (.head _)
        · exact .inr (.head _)
    · have hb : (x == n) = false := by simpa using hx
      have : (x, NameKind.cell) ∈ r ∨ (x, NameKind.free) ∈ r := by
        refine ih ?_
        split at h <;> simpa only [List.lookup_cons, hb] using h
      exact this.imp (List.Mem.tail _) (List.Mem.tail _)
end Mine

set_option Elab.async false
set_option linter.unusedVariables false
namespace Mine

theorem cellsFrom_new (x : Str) : ∀ (names : List (Str × NameKind)) (n lo : Nat) (acc : List (Str × Addr)), lo ≤ n → ((x, NameKind.cell) ∈ names ∨ ∃ c, acc.lookup x = some c ∧ @LE.le Nat _ lo c) →
    ∃ c, (cellsFrom n names acc).lookup x = some c ∧ @LE.le Nat _ lo c
  | [], n, lo, acc, _, h => by rcases h with h | h; exact absurd h (by simp); exact h
  | (m, k) :: r, n, lo, acc, hl, h => by
    unfold cellsFrom
    split
    · rename_i hk
      refine cellsFrom_new x r (n + 1) lo _ (by omega) ?_
      rcases h with h | ⟨c, h, h'⟩
      · rcases List.mem_cons.mp h with q | q
        · cases q; exact .inr ⟨n, by simp, hl⟩
        · exact .inl q
      · right
        rw [List.lookup_cons]
        split
        · exact ⟨n, rfl, hl⟩
        · exact ⟨c, h, h'⟩
    · rename_i hk
      refine cellsFrom_new x r n lo _ hl ?_
      rcases h with h | h
      · rcases List.mem_cons.mp h with q | q
        · cases q; simp at hk
        · exact .inl q
      · exact .inr h
theorem lookup_mem {α : Type} {x : Str} {k : α} : ∀ {l : List (Str × α)}, l.lookup x = some k → (x, k) ∈ l := fun h => mem_of_lookup h

section
variable {prog : Program} {w : World} {h₀ : Heap} {C : Cx} {ρ : Vs}

/-- something that is reserved, no frame and no cell of this context, is written -/
theorem Sat.write {b : Addr} {s s' : Shared} (H : Sat h₀ C ρ s) (hl : C.env.locals ≠ b) (hc : ∀ x c, C.env.cells.lookup x = some c → c ≠ b) (hX : C.X b) (h0 : h₀.get? b = none)
    (k : KeepsW (· = b) s s') (hb : ∃ o', s'.heap.get? b = some o') : Sat h₀ C ρ s' := by
  obtain ⟨m, hm⟩ := H.loc
  have gs : s'.gens = s.gens := by obtain ⟨h', t', rfl, _⟩ := k; rfl
  refine ⟨H.good, gs.trans H.gens, Nat.le_trans H.toks (keepsW_le k), fun a o' e' => keepsW_get k (fun q => ?_) (H.top a o' e'), fun a xa => ?_, ⟨m, Ns.keepsW hm k hl⟩, fun x c q => ?_, fun p hp => ?_⟩
  · subst q; rw [h0] at e'; cases e'
  · by_cases q : a = b
    · subst q; exact hb
    · obtain ⟨o', e'⟩ := H.alloc a xa; exact ⟨o', keepsW_get k q e'⟩
  · obtain ⟨v, hv⟩ := H.cells x c q
    exact ⟨v, IsCell.keepsW hv k (hc x c q)⟩
  · obtain ⟨v, i, hv⟩ := H.vars p hp
    refine ⟨v, i.keepsW k fun a q => by subst q; exact hX, ?_⟩
    rcases hv with ⟨a, m', b', c'⟩ | ⟨a, c', b', d'⟩
    · exact .inl ⟨a, m', Ns.keepsW b' k hl, c'⟩
    · exact .inr ⟨a, c', b', IsCell.keepsW d' k (hc _ _ b')⟩

/-- a reserved object is written, and is reserved no more -/
theorem Sat.drop {b : Addr} {s s' : Shared} (H : Sat h₀ (C.also b) ρ s) (G : Good h₀ C) (nX : ¬ C.X b) (hl : C.env.locals ≠ b) (hc : ∀ x c, C.env.cells.lookup x = some c → c ≠ b) (h0 : h₀.get? b = none)
    (k : KeepsW (· = b) s s') : Sat h₀ C ρ s' := by
  obtain ⟨m, hm⟩ := H.loc
  have gs : s'.gens = s.gens := by obtain ⟨h', t', rfl, _⟩ := k; rfl
  refine ⟨G, gs.trans H.gens, Nat.le_trans H.toks (keepsW_le k), fun a o' e' => keepsW_get k (fun q => ?_) (H.top a o' e'), fun a xa => ?_, ⟨m, Ns.keepsW hm k hl⟩, fun x c q => ?_, fun p hp => ?_⟩
  · subst q; rw [h0] at e'; cases e'
  · obtain ⟨o', e'⟩ := H.alloc a (.inl xa); exact ⟨o', keepsW_get k (fun q => nX (q ▸ xa)) e'⟩
  · obtain ⟨v, hv⟩ := H.cells x c q
    exact ⟨v, IsCell.keepsW hv k (hc x c q)⟩
  · obtain ⟨v, i, hv⟩ := H.vars p hp
    refine ⟨v, (i.keepsW k fun a q => .inr q).less fun a q => .inl q, ?_⟩
    rcases hv with ⟨a, m', b', c'⟩ | ⟨a, c', b', d'⟩
    · exact .inl ⟨a, m', Ns.keepsW b' k hl, c'⟩
    · exact .inr ⟨a, c', b', IsCell.keepsW d' k (hc _ _ b')⟩

structure CompIn (h₀ : Heap) (C : Cx) (scope : Scope) (Cb : Cx) (I acc : Addr) : Prop where
  A : Cb.A = C.A
  good : Good h₀ Cb
  scp : Cb.env.scope = relabel scope C.env
  xacc : Cb.X acc
  wacc : ¬ Cb.W acc
  acc0 : h₀.get? acc = none
  xI : ¬ Cb.X I
  I0 : h₀.get? I = none
  sto : ∀ x, (scope.names.lookup x = some .local ∨ scope.names.lookup x = some .cell) → Stores Cb x

theorem Sat.old0 {s : Shared} (H : Sat h₀ C ρ s) {a : Addr} (l : s.heap.objs.size ≤ a) : h₀.get? a = none := by
  cases e : h₀.get? a with
  | none => rfl
  | some o => exact absurd (Heap.lt_size (H.top a o e)) (Nat.not_lt.mpr l)
theorem Sat.xold {s : Shared} (H : Sat h₀ C ρ s) {a : Addr} (l : s.heap.objs.size ≤ a) : ¬ C.X a := fun q => by
  obtain ⟨o, e⟩ := H.alloc _ q
  exact absurd (Heap.lt_size e) (Nat.not_lt.mpr l)

theorem newCompEnv {M : Model} {A : Around} {E : Value → Shared → Prop} {s : Shared} {scope : Scope} {globals : Addr} {cl : List (Str × Addr)} {qual : Str} {env : Env} {Q : Env → Shared → Prop}
    (h : Q { scope, locals := s.heap.objs.size, globals, cells := cellsFrom (s.heap.objs.size + 1) scope.names cl, qual, func := none, code := env.code, frame := env.frame, builtins := env.builtins }
      { s with heap := pushCells (s.heap.push { cls := .type "dict", data := .dict #[] }) scope.names }) :
    wpAny M A (newFunctionEnv scope globals cl [] qual none .none (some env)) Q E s := by
  simp only [newFunctionEnv, Option.isSome_some, if_true]
  refine wpAny_bind (wpAny_alloc ?_)
  refine wpAny_bind (wpAny_layCells _ (fun name kind cells => by cases hkc : kind == NameKind.cell <;> simp [hkc]) _ _ _ _ ?_)
  rw [show ({ s with heap := s.heap.push { cls := .type "dict", data := .dict #[] } } : Shared).heap.objs.size = s.heap.objs.size + 1 from Heap.size_push ..]
  exact wpAny_bind (wpAny_pure (wpAny_pure h))

set_option maxHeartbeats 1000000 in
theorem comp_core {elt target iter : Expr} {ifs : List Expr} {gs : List Comprehension} {scope : Scope} {pos p0 : Pos} {src : D} {ds out : List D} {use : Option (Value → Sem Unit)}
    (hsrc : EvD prog w h₀ C ρ iter src) (hit : IterD src ds) (hkind : scope.kind = .function) (hnames : ∀ x ∈ scope.names, x.2 = .local → scope.names.lookup x.1 = some .local)
    (hfree : ∀ p ∈ scope.names, p.2 = .free → (C.env.kindOf p.1 = some .cell ∨ C.env.kindOf p.1 = some .free)) (hfold : ∀ x, foldedSetIterable iter C.env x = pure x)
    (hloop : ∀ Cb I acc s, CompIn h₀ C scope Cb I acc → Sat h₀ (Cb.also I) (capt scope C.env ρ) s → Fills (Cb.also I) acc [] s.heap → ItAt prog w C.A (Cb.also I).X I ds s.heap → ∀ R : Result → Shared → Prop,
      (∀ s', Sat h₀ Cb (capt scope C.env ρ) s' → Fills Cb acc out s'.heap → KeepsW (fun a => Cb.W a ∨ a = acc ∨ a = I) s s' → R (.ok .next) s') →
      codeAny (model prog w) C.A (.compLoop (.ListComp elt (⟨target, iter, ifs, 0⟩ :: gs) scope pos) 0 (.ref I) (.ref acc) Cb.env) R s)
    {s : Shared} (H : Sat h₀ C ρ s) {Q : Value → Shared → Prop} {E : Value → Shared → Prop}
    (hQ : match use with
      | none => ∀ v s', Keeps s s' → Is C.X s'.heap v (.list out) → Q v s'
      | some u => ∀ v s' L, Keeps s s' → Sat h₀ (C.also L) ρ s' → Is (C.also L).X s'.heap v (.list out) → ¬ C.W L → (∃ m, s'.heap.Ns L m) → C.env.locals ≠ L → (∀ x c, C.env.cells.lookup x = some c → c ≠ L) → h₀.get? L = Option.none → ¬ C.X L → s.heap.get? L = Option.none →
          wpAny (model prog w) C.A (u v) (fun _ s'' => KeepsW C.W s' s'' ∧ ∀ h', Heap.SameBut L s''.heap h' → Q .none { s'' with heap := h' }) E s') :
    wpAny (model prog w) C.A (comprehension (.ListComp elt (⟨target, iter, ifs, 0⟩ :: gs) scope pos) scope C.env p0 (newList []) false (eval iter C.env) use) Q E s := by
  have hclos := clos_eq C.env scope fun p hp hk => H.good.cl _ (hfree p hp hk)
  refine wpAny_comprehension_free (use := use) rfl hfold hclos hkind hnames (hsrc.then H fun v s₁ k₁ H₁ i₁ => ?_)
  refine wpAny_mono (iter_D (prog := prog) (w := w) H.good.hh (H₁.fresh) hit i₁) (fun it s₂ z => ?_) fun _ _ z => z.elim
  obtain ⟨rfl, ⟨oI, rfl⟩, T⟩ := z
  generalize hI : s₁.heap.objs.size = I at T ⊢
  have hI2 : ({ s₁ with heap := s₁.heap.push oI } : Shared).heap.objs.size = I + 1 := by rw [← hI]; exact Heap.size_push ..
  refine wpAny_newObj_type ?_
  generalize hacc : ({ s₁ with heap := s₁.heap.push oI } : Shared).heap.objs.size = acc at *
  generalize hs₃ : ({ s₁ with heap := (s₁.heap.push oI).push { cls := .type "list", dict := none, data := .seq ([] : List Value).toArray } } : Shared) = s₃
  have hsz₃ : s₃.heap.objs.size = acc + 1 := by rw [← hs₃, ← hacc]; exact Heap.size_push ..
  refine newCompEnv ?_
  generalize hL : s₃.heap.objs.size = L at hsz₃ ⊢
  generalize hs₄ : ({ s₃ with heap := pushCells (s₃.heap.push { cls := .type "dict", data := .dict #[] }) scope.names } : Shared) = s₄
  generalize hcells : cellsFrom (L + 1) scope.names (clos C.env scope.names []) = cells
  -- what is kept
  have kI : Keeps s₁ { s₁ with heap := s₁.heap.push oI } := keeps_push s₁ oI
  have k13 : Keeps s₁ s₃ := by rw [← hs₃]; exact keeps_trans kI (keeps_push ({ s₁ with heap := s₁.heap.push oI } : Shared) _)
  have kpush : ∀ b o, (s₃.heap.push { cls := .type "dict", data := .dict #[] }).get? b = some o → s₄.heap.get? b = some o := fun b o e => by rw [← hs₄]; exact pushCells_keeps _ _ b o e
  have k34 : Keeps s₃ s₄ := by rw [← hs₄]; exact ⟨_, _, rfl, Nat.le_refl _, fun b o e => pushCells_keeps _ _ b o (Heap.get?_push_of_some _ e)⟩
  have k14 := keeps_trans k13 k34
  have k2 : Keeps ({ s₁ with heap := s₁.heap.push oI } : Shared) s₃ := by rw [← hs₃]; exact keeps_push ({ s₁ with heap := s₁.heap.push oI } : Shared) _
  have k24 := keeps_trans k2 k34
  have eacc : s₃.heap.get? acc = some (listObj [] 0) := by rw [← hs₃, ← hacc]; exact Heap.get?_push_size _ rfl
  have eacc4 := keeps_get k34 eacc
  have nsL : s₄.heap.Ns L (fun _ => none) := by
    rw [← hL]
    have := Heap.Ns.new s₃.heap (.type "dict")
    exact this.keeps kpush
  obtain ⟨oI', fsI, eI, hdI⟩ := (T C.A (fun _ => False) H.good.hh fun _ q => q.elim).obj
  have eI4 := keeps_get k24 eI
  have lt1 : I < acc := by rw [hI2]; exact Nat.lt_succ_self _
  have lt2 : acc < L := by rw [hsz₃]; exact Nat.lt_succ_self _
  have old : ∀ b o, s₁.heap.get? b = some o → b < I := fun b o e => by rw [← hI]; exact Heap.lt_size e
  have hcl : ∀ x c, (clos C.env scope.names []).lookup x = some c → C.env.cells.lookup x = some c := clos_lookup C.env scope.names [] fun _ _ q => by cases q
  have hcell : ∀ x c, cells.lookup x = some c → C.env.cells.lookup x = some c ∨ (s₄.heap.IsCell c none ∧ @LE.le Nat _ (L + 1) c) := fun x c e => by
    rw [← hcells] at e
    have := cellsFrom_cell (P := fun x c => C.env.cells.lookup x = some c) scope.names (s₃.heap.push { cls := .type "dict", data := .dict #[] }) (clos C.env scope.names []) (L + 1) x c (by rw [Heap.size_push, hL]; exact Nat.le_refl _) (fun x c q => .inl (hcl x c q)) (by rw [Heap.size_push, hL]; exact e)
    rw [← hs₄]; exact this
  let W' : Addr → Prop := fun a => a = L ∨ (@LE.le Nat _ (L + 1) a ∧ ∃ x, cells.lookup x = some a)
  let cenv : Env := { scope := relabel scope C.env, locals := L, globals := C.env.globals, cells := cells, qual := C.env.qual, func := none, code := C.env.code, frame := C.env.frame, builtins := C.env.builtins }
  let Cb : Cx := ⟨C.A, cenv, fun a => C.X a ∨ a = acc ∨ W' a, W'⟩
  have wge : ∀ a, W' a → @LE.le Nat _ L a := fun a q => by
    rcases q with rfl | ⟨q, _⟩
    · exact Nat.le_refl _
    · exact Nat.le_of_succ_le q
  have old1 : ∀ {a : Addr}, @LE.le Nat _ I a → s₁.heap.get? a = none := fun {a} l => get_none_of_le (by rw [hI]; exact l)
  have new0 : ∀ {a : Addr}, @LE.le Nat _ I a → h₀.get? a = none := fun {a} l => H₁.old0 (by rw [hI]; exact l)
  have newX : ∀ {a : Addr}, @LE.le Nat _ I a → ¬ C.X a := fun {a} l => H₁.xold (by rw [hI]; exact l)
  have cIlt : ∀ x c, C.env.cells.lookup x = some c → @LT.lt Nat _ c I := fun x c e => by
    obtain ⟨v, hv⟩ := H₁.cells x c e
    rw [← hI]; exact hv.lt
  have Gb : Good h₀ Cb := by
    refine ⟨?_, H.good.glob, H.good.bi, H.good.hh, fun a q => .inr (.inr q), fun a q => new0 (Nat.le_trans (Nat.le_of_lt (Nat.lt_trans lt1 lt2)) (wge a q)), .inl rfl, fun x y c e e' => ?_, fun x hx => ?_⟩
    · show (relabel scope C.env).kind = _
      exact hkind
    · refine cellsFrom_apart scope.names (L + 1) (clos C.env scope.names []) (fun x c q => ?_) (fun x y c q q' => H.good.apart x y c (hcl x c q) (hcl y c q')) x y c (by rw [hcells]; exact e) (by rw [hcells]; exact e')
      exact Nat.lt_succ_of_lt (Nat.lt_trans (cIlt x c (hcl x c q)) (Nat.lt_trans lt1 lt2))
    · show (cells.lookup x).isSome = true
      rw [← hcells]
      refine cellsFrom_has x scope.names _ _ ?_
      rcases relabel_inv hx with q | q
      · exact .inl q
      · exact .inr (clos_some C.env x scope.names [] (.inr ⟨q, H.good.cl _ (hfree _ q rfl)⟩))
  have CI : CompIn h₀ C scope Cb I acc := by
    refine ⟨rfl, Gb, rfl, .inr (.inl rfl), fun q => absurd (wge _ q) (Nat.not_le.mpr lt2), new0 (Nat.le_of_lt lt1), ?_, new0 (Nat.le_refl _), fun x hx => ?_⟩
    · rintro (q | q | q)
      · exact newX (Nat.le_refl _) q
      · exact Nat.ne_of_lt lt1 q
      · exact absurd (wge _ q) (Nat.not_le.mpr (Nat.lt_trans lt1 lt2))
    · rcases hx with hx | hx
      · exact .inl (lookup_relabel_local hx)
      · obtain ⟨c, e, l⟩ := cellsFrom_new x scope.names (L + 1) (L + 1) (clos C.env scope.names []) (Nat.le_refl _) (.inl (lookup_mem hx))
        rw [hcells] at e
        exact .inr ⟨lookup_relabel_cell hx, c, e, .inr ⟨l, x, e⟩⟩
  have up : ∀ {v : Value} {d : D}, Is C.X s₁.heap v d → Is (Cb.also I).X s₄.heap v d := fun {v d} q => q.mono fun b o nb e => ⟨fun z => by
    have lb := old b o e
    rcases z with (z | z | z) | z
    · exact nb z
    · exact absurd (z ▸ lb) (Nat.not_lt.mpr (Nat.le_of_lt lt1))
    · exact absurd (wge _ z) (Nat.not_le.mpr (Nat.lt_trans lb (Nat.lt_trans lt1 lt2)))
    · exact absurd (z ▸ lb) (Nat.lt_irrefl _), keeps_get k14 e⟩
  have g4 : s₄.gens = s₁.gens := by obtain ⟨_, _, rfl, _⟩ := k14; rfl
  have S4 : Sat h₀ (Cb.also I) (capt scope C.env ρ) s₄ := by
    refine ⟨Gb.also I, g4.trans H₁.gens, Nat.le_trans H₁.toks (keeps_le k14), fun b o e => keeps_get k14 (H₁.top b o e), fun a xa => ?_, ⟨_, nsL⟩, fun x c e => ?_, fun p hp => ?_⟩
    · rcases xa with (xa | rfl | xa) | rfl
      · obtain ⟨o, e⟩ := H₁.alloc a xa; exact ⟨o, keeps_get k14 e⟩
      · exact ⟨_, eacc4⟩
      · rcases xa with rfl | ⟨l, x, e⟩
        · obtain ⟨o, _, _, e, _⟩ := nsL; exact ⟨o, e⟩
        · rcases hcell x a e with q | q
          · obtain ⟨v, o, e, _⟩ := H₁.cells x a q; exact ⟨o, keeps_get k14 e⟩
          · obtain ⟨⟨o, e, _⟩, _⟩ := q; exact ⟨o, e⟩
      · exact ⟨_, eI4⟩
    · rcases hcell x c e with q | q
      · obtain ⟨v, hv⟩ := H₁.cells x c q; exact ⟨v, hv.keeps fun b o e => keeps_get k14 e⟩
      · exact ⟨_, q.1⟩
    · obtain ⟨hp, hq⟩ := List.mem_filter.mp hp
      simp only [Bool.and_eq_true, Bool.or_eq_true, beq_iff_eq] at hq
      obtain ⟨hf, hk⟩ := hq
      obtain ⟨f1, f2⟩ := freeIn_mem hf
      obtain ⟨v, i, hv⟩ := H₁.vars p hp
      refine ⟨v, up i, .inr ?_⟩
      rcases hv with ⟨a, m', b', c'⟩ | ⟨a, c', b', d'⟩
      · rw [a] at hk; rcases hk with hk | hk <;> cases hk
      · refine ⟨lookup_relabel_free f1 f2, c', ?_, d'.keeps fun b o e => keeps_get k14 e⟩
        show cells.lookup p.1 = some c'
        rw [← hcells, cellsFrom_skip p.1 scope.names _ _ fun q hq e => by rw [f2 q hq e]; intro z; cases z]
        obtain ⟨a', ha'⟩ := Option.isSome_iff_exists.mp (clos_some C.env p.1 scope.names [] (.inr ⟨f1, by rw [b']; rfl⟩))
        rw [ha', ← b', ← hcl _ _ ha']
  have F4 : Fills (Cb.also I) acc [] s₄.heap := ⟨[], 0, eacc4, .nil⟩
  have T4 : ItAt prog w C.A (Cb.also I).X I ds s₄.heap := by
    refine (T C.A (Cb.also I).X H.good.hh fun a z => ?_).keep fun b o _ e => keeps_get k24 e
    rcases z with (z | z | z) | z
    · exact .inl z
    · exact .inr (by rw [z]; exact Nat.le_of_lt lt1)
    · exact .inr (Nat.le_trans (Nat.le_of_lt (Nat.lt_trans lt1 lt2)) (wge a z))
    · exact .inr (by rw [z]; exact Nat.le_refl _)
  have loop := hloop Cb I acc s₄ CI S4 F4 T4
  have fin : codeAny (model prog w) C.A (.compLoop (.ListComp elt (⟨target, iter, ifs, 0⟩ :: gs) scope pos) 0 (.ref I) (.ref acc) cenv) (compPost (model prog w) C.A E use Q (.ref acc) L) s₄ := by
    refine loop _ fun s' S' F' k' => ?_
    have kall : Keeps s₁ s' := by
      obtain ⟨h', t', rfl, l, kk⟩ := keepsW_trans (keepsW_of (W := fun a => Cb.W a ∨ a = acc ∨ a = I) k14) k'
      refine ⟨h', t', rfl, l, fun b o e => kk b o ?_ e⟩
      have lb := old b o e
      rintro (z | z | z)
      · exact absurd (wge _ z) (Nat.not_le.mpr (Nat.lt_trans lb (Nat.lt_trans lt1 lt2)))
      · exact absurd (z ▸ lb) (Nat.not_lt.mpr (Nat.le_of_lt lt1))
      · exact absurd (z ▸ lb) (Nat.lt_irrefl _)
    obtain ⟨vs, n, e, i⟩ := F'
    obtain ⟨mL, nL⟩ := S'.loc
    have Lgt : @LE.le Nat _ I L := Nat.le_of_lt (Nat.lt_trans lt1 lt2)
    have isR : ∀ h', Heap.SameBut L s'.heap h' → Is C.X h' (.ref acc) (.list out) := fun h' hs => by
      refine .list (newX (Nat.le_of_lt lt1)) ((hs.2 acc (Nat.ne_of_lt lt2)).trans e) (i.mono fun b o nb e => ⟨fun q => nb (.inl q), (hs.2 b fun q => nb (.inr (.inr (.inl q)))).trans e⟩)
    cases use with
    | none =>
      refine ⟨mL, nL, fun h' hs => hQ _ _ ?_ (isR h' hs)⟩
      refine keeps_trans k₁ ?_
      obtain ⟨h'', t'', rfl, l, kk⟩ := kall
      exact ⟨h', t'', rfl, l, fun b o e => (hs.2 b fun q => absurd (q ▸ old b o e) (Nat.not_lt.mpr Lgt)).trans (kk b o e)⟩
    | some u =>
      have lne : C.env.locals ≠ L := fun q => by
        obtain ⟨m, hm⟩ := H₁.loc
        have := hm.lt
        rw [hI] at this
        exact absurd (q ▸ this) (Nat.not_lt.mpr Lgt)
      have SL : Sat h₀ (C.also L) ρ s' := by
        have HS := H₁.keeps kall
        refine ⟨H.good.also L, HS.gens, HS.toks, HS.top, fun a xa => ?_, HS.loc, HS.cells, fun p hp => ?_⟩
        · rcases xa with xa | rfl
          · exact HS.alloc a xa
          · obtain ⟨o, _, _, e, _⟩ := nL; exact ⟨o, e⟩
        · obtain ⟨v, i, hv⟩ := H₁.vars p hp
          refine ⟨v, i.mono fun b o nb e => ⟨fun z => z.elim nb fun z => absurd (z ▸ old b o e) (Nat.not_lt.mpr Lgt), keeps_get kall e⟩, hv.keeps fun b o e => keeps_get kall e⟩
      have iL : Is (C.also L).X s'.heap (.ref acc) (.list out) := .list (fun z => z.elim (newX (Nat.le_of_lt lt1)) (Nat.ne_of_lt lt2)) e (i.mono fun b o nb e => ⟨fun q => q.elim (fun q => nb (.inl q)) fun q => nb (.inr (.inr (.inl q))), e⟩)
      have wL : ¬ C.W L := fun q => newX Lgt (H.good.sub _ q)
      refine wpAny_mono (hQ (.ref acc) s' L (keeps_trans k₁ kall) SL iL wL ⟨mL, nL⟩ lne (fun x c e q => absurd (q ▸ cIlt x c e) (Nat.not_lt.mpr Lgt)) (new0 Lgt) (newX Lgt) (by
        cases e : s.heap.get? L with
        | none => rfl
        | some o => have := keeps_get k₁ e; rw [old1 Lgt] at this; cases this)) (fun _ s'' z => ?_) fun _ _ z => z
      exact ⟨mL, Ns.keepsW nL z.1 wL, z.2⟩
  refine codeAny_compStart_list fin (T4.self ?_)
  exact fin
end
end Mine

set_option Elab.async false
set_option linter.unusedVariables false
set_option linter.unusedSimpArgs false
namespace Mine

def relab (scope sc : Scope) : Scope :=
  { scope with names := scope.names.map fun (n, k) => if (k == .free && sc.kind == .function && sc.names.lookup n == some .cell) then (n, .cell) else (n, k) }
def cap (scope sc : Scope) (ρ : Vs) : Vs := ρ.filter fun p => freeIn scope p.1 && (sc.names.lookup p.1 == some .cell || sc.names.lookup p.1 == some .free)
theorem cap_mem {scope sc : Scope} {ρ : Vs} {x : Str} {d : D} (hf : (freeIn scope x && (sc.names.lookup x == some .cell || sc.names.lookup x == some .free)) = true) (m : (x, d) ∈ ρ) : (x, d) ∈ cap scope sc ρ :=
  List.mem_filter.mpr ⟨m, hf⟩
def ownIn (scope : Scope) (y : Str) : Bool := scope.names.lookup y == some .local || scope.names.lookup y == some .cell
theorem cap_put {scope sc : Scope} {ρ : Vs} {y : Str} {d : D} (hy : ownIn scope y = true) : ∀ q ∈ cap scope sc ρ, q ∈ put (cap scope sc ρ) y d := by
  intro q hq
  obtain ⟨x, e⟩ := q
  refine put_tail ?_ hq
  obtain ⟨_, h⟩ := List.mem_filter.mp hq
  simp only [Bool.and_eq_true] at h
  obtain ⟨h1, h2⟩ := freeIn_mem h.1
  cases hb : (x == y) with
  | false => rfl
  | true =>
    have := beq_iff_eq.mp hb
    subst this
    unfold ownIn at hy
    simp only [Bool.or_eq_true, beq_iff_eq] at hy
    rcases hy with hy | hy
    · have := h2 _ (lookup_mem hy) rfl; cases this
    · have := h2 _ (lookup_mem hy) rfl; cases this
def scopeOk (scope sc : Scope) : Bool := scope.kind == .function && scope.names.all (fun x => x.2 != .local || scope.names.lookup x.1 == some .local) &&
  scope.names.all (fun p => p.2 != .free || (sc.names.lookup p.1 == some .cell || sc.names.lookup p.1 == some .free))

section
variable {prog : Program} {w : World} {h₀ : Heap} {C : Cx} {ρ : Vs}

structure InComp (C : Cx) (scope sc : Scope) (Cc : Cx) : Prop where
  A : Cc.A = C.A
  scp : Cc.env.scope = relab scope sc
  sto : ∀ x, ownIn scope x = true → Stores Cc x

theorem CompIn.inComp {scope sc : Scope} {Cb : Cx} {I acc : Addr} (hsc : C.env.scope = sc) (h : CompIn h₀ C scope Cb I acc) : InComp C scope sc (Cb.also I) := by
  refine ⟨h.A, ?_, fun x hx => ?_⟩
  · subst hsc; exact h.scp
  · unfold ownIn at hx
    simp only [Bool.or_eq_true, beq_iff_eq] at hx
    exact h.sto x hx
theorem capt_eq {scope sc : Scope} (hsc : C.env.scope = sc) (ρ : Vs) : capt scope C.env ρ = cap scope sc ρ := by subst hsc; rfl

theorem scope_parts {scope sc : Scope} (hsc : C.env.scope = sc) (h : scopeOk scope sc = true) : scope.kind = .function ∧ (∀ x ∈ scope.names, x.2 = .local → scope.names.lookup x.1 = some .local) ∧
    ∀ p ∈ scope.names, p.2 = .free → (C.env.kindOf p.1 = some .cell ∨ C.env.kindOf p.1 = some .free) := by
  subst hsc
  unfold scopeOk at h
  simp only [Bool.and_eq_true, beq_iff_eq, List.all_eq_true, Bool.or_eq_true, bne_iff_ne, ne_eq] at h
  exact ⟨h.1.1, fun x hx e => (h.1.2 x hx).resolve_left fun q => q e, fun p hp e => (h.2 p hp).resolve_left fun q => q e⟩

/-- what a turn of a comprehension with one clause gives -/
def TurnD (prog : Program) (w : World) (h₀ : Heap) (Cc : Cx) (ρ : Vs) (target elt : Expr) (ifs : List Expr) (d : D) (f : List D) : Prop :=
  ∃ ρ' b, AsgD prog w h₀ Cc ρ target d ρ' ∧ (∀ q ∈ ρ, q ∈ ρ') ∧ IfsD prog w h₀ Cc ρ' ifs b ∧ (b = true → ∃ d, EvD prog w h₀ Cc ρ' elt d ∧ f = [d]) ∧ (b = false → f = [])

theorem turn1 (elt target iter : Expr) (ifs : List Expr) (scope : Scope) (pos : Pos) (I acc : Addr) (env : Env) :
    compTurn (.ListComp elt [⟨target, iter, ifs, 0⟩] scope pos) 0 (.ref I) (.ref acc) env = turnTree iter.pos target ifs (do let _ ← call (.builtin "list.append") [.ref acc, ← eval elt env]) I env (.compLoop (.ListComp elt [⟨target, iter, ifs, 0⟩] scope pos) 0 (.ref I) (.ref acc) env) := rfl
theorem turn20 (elt t1 i1 t2 i2 : Expr) (f1 f2 : List Expr) (scope : Scope) (pos : Pos) (I acc : Addr) (env : Env) :
    compTurn (.ListComp elt [⟨t1, i1, f1, 0⟩, ⟨t2, i2, f2, 0⟩] scope pos) 0 (.ref I) (.ref acc) env = turnTree i1.pos t1 f1 (do
      let x ← eval i2 env
      standAt i2.pos
      let x ← foldedSetIterable i2 env x
      let _ ← runOwn (.compStart (.ListComp elt [⟨t1, i1, f1, 0⟩, ⟨t2, i2, f2, 0⟩] scope pos) 1 (← holding [x] (pyIter x)) (.ref acc) env) env) I env (.compLoop (.ListComp elt [⟨t1, i1, f1, 0⟩, ⟨t2, i2, f2, 0⟩] scope pos) 0 (.ref I) (.ref acc) env) := by
  simp only [turnTree, bind_assoc, pure_bind]
  rfl
theorem turn21 (elt t1 i1 t2 i2 : Expr) (f1 f2 : List Expr) (scope : Scope) (pos : Pos) (I acc : Addr) (env : Env) :
    compTurn (.ListComp elt [⟨t1, i1, f1, 0⟩, ⟨t2, i2, f2, 0⟩] scope pos) 1 (.ref I) (.ref acc) env = turnTree i2.pos t2 f2 (do let _ ← call (.builtin "list.append") [.ref acc, ← eval elt env]) I env (.compLoop (.ListComp elt [⟨t1, i1, f1, 0⟩, ⟨t2, i2, f2, 0⟩] scope pos) 1 (.ref I) (.ref acc) env) := rfl

theorem start1 {elt t1 i1 t2 i2 : Expr} {f1 f2 : List Expr} {scope : Scope} {pos : Pos} {it acc : Value} {env : Env} {A : Around} {R : Result → Shared → Prop} {s : Shared}
    (h0 : codeAny (model prog w) A (.compLoop (.ListComp elt [⟨t1, i1, f1, 0⟩, ⟨t2, i2, f2, 0⟩] scope pos) 1 it acc env) R s)
    (h : wpAny (model prog w) A (pyIter it) (fun it' s' => codeAny (model prog w) A (.compLoop (.ListComp elt [⟨t1, i1, f1, 0⟩, ⟨t2, i2, f2, 0⟩] scope pos) 1 it' acc env) R s')
      (notedBy (model prog w) A env fun x s' => R (.error x) s') s) :
    codeAny (model prog w) A (.compStart (.ListComp elt [⟨t1, i1, f1, 0⟩, ⟨t2, i2, f2, 0⟩] scope pos) 1 it acc env) R s := by
  refine codeAny_of_tree ?_
  show wpAny _ _ ((compStart (.ListComp elt [⟨t1, i1, f1, 0⟩, ⟨t2, i2, f2, 0⟩] scope pos) 1 it acc env).onRaise (fun x => do noteFrame x env; standAt theWindowsPlace)) _ _ s
  refine wpAny_notedAt ?_
  unfold compStart
  show wpAny _ _ (ask >>= _) _ _ s
  refine wpAny_bind (wpAny_askSetting (wpAny_ite ?_))
  split
  · first
      | exact wpAny_bind (wpAny_pure (wpAny_pure (And.intro rfl h0)))
      | exact wpAny_pure (And.intro rfl h0)
  · first
      | exact wpAny_bind (wpAny_rule (wpAny_bind (wpAny_standAt (wpAny_bind (wpAny_mono h (fun it' s' h' => wpAny_pure (And.intro rfl h')) fun _ _ x => x)))))
      | (refine wpAny_bind (wpAny_rule ?_); show wpAny _ _ (standAt i2.pos >>= _) _ _ s; exact wpAny_bind (wpAny_standAt (wpAny_bind (wpAny_mono h (fun it' s' h' => wpAny_pure (And.intro rfl h')) fun _ _ x => x))))

/-- the loop of one clause, as comp_core wants it -/
theorem loop1 {α : Type} {elt target iter : Expr} {ifs : List Expr} {scope sc : Scope} {pos : Pos} (xs : List α) (inj : α → D) (f : α → List D) (hsc : C.env.scope = sc) (hsz : (xs.flatMap f).length ≤ sizeLine)
    (hbody : ∀ x ∈ xs, ∀ Cc, InComp C scope sc Cc → TurnD prog w h₀ Cc (cap scope sc ρ) target elt ifs (inj x) (f x)) :
    ∀ Cb I acc s, CompIn h₀ C scope Cb I acc → Sat h₀ (Cb.also I) (capt scope C.env ρ) s → Fills (Cb.also I) acc [] s.heap → ItAt prog w C.A (Cb.also I).X I (xs.map inj) s.heap → ∀ R : Result → Shared → Prop,
      (∀ s', Sat h₀ Cb (capt scope C.env ρ) s' → Fills Cb acc (xs.flatMap f) s'.heap → KeepsW (fun a => Cb.W a ∨ a = acc ∨ a = I) s s' → R (.ok .next) s') →
      codeAny (model prog w) C.A (.compLoop (.ListComp elt [⟨target, iter, ifs, 0⟩] scope pos) 0 (.ref I) (.ref acc) Cb.env) R s := by
  intro Cb I acc s K S F T R hR
  rw [capt_eq hsc] at S hR
  have hA := K.A
  rw [← hA] at T ⊢
  refine loop_D (ρ := cap scope sc ρ) inj f K.good (turn1 elt target iter ifs scope pos I acc Cb.env) K.xacc K.wacc K.acc0 K.xI K.I0 xs (fun x hx => ?_) [] s R S F T (by simpa using hsz) fun s' S' F' k' => hR s' S' (by simpa using F') k'
  obtain ⟨ρ', b, h1, h2, h3, h4, h5⟩ := hbody x hx _ (K.inComp hsc)
  refine ⟨ρ', b, h1, h2, h3, fun hb => ?_, h5⟩
  obtain ⟨d, hd, e⟩ := h4 hb
  rw [e]
  exact inner_emit (C := Cb.also I) (.inl K.xacc) K.acc0 hd

theorem ev_comp {α : Type} {elt target iter : Expr} {ifs : List Expr} {scope sc : Scope} {pos : Pos} {src : D} (xs : List α) (inj : α → D) (f : α → List D) (hsc : C.env.scope = sc) (hok : scopeOk scope sc = true)
    (hsrc : EvD prog w h₀ C ρ iter src) (hit : IterD src (xs.map inj)) (hsz : (xs.flatMap f).length ≤ sizeLine)
    (hbody : ∀ x ∈ xs, ∀ Cc, InComp C scope sc Cc → TurnD prog w h₀ Cc (cap scope sc ρ) target elt ifs (inj x) (f x)) (hfold : ∀ env x, foldedSetIterable iter env x = pure x := by intro _ _; rfl) :
    EvD prog w h₀ C ρ (.ListComp elt [⟨target, iter, ifs, 0⟩] scope pos) (.list (xs.flatMap f)) := fun s H => by
  obtain ⟨p1, p2, p3⟩ := scope_parts hsc hok
  rw [eval_ListComp]
  exact comp_core (use := none) hsrc hit p1 p2 p3 (hfold _) (loop1 xs inj f hsc hsz hbody) H fun v s' k i => ⟨k, i⟩

/-- the loop of two clauses, as comp_core wants it -/
theorem loop2 {α β : Type} {elt t1 i1 t2 i2 : Expr} {f1 f2 : List Expr} {scope sc : Scope} {pos : Pos} (xs : List α) (inj : α → D) (ys : α → List β) (inj2 : α → β → D) (f : α → β → List D) (hsc : C.env.scope = sc) (hsz : (xs.flatMap fun x => (ys x).flatMap (f x)).length ≤ sizeLine)
    (hbody : ∀ x ∈ xs, ∀ Cc, InComp C scope sc Cc → ∃ ρ' b, AsgD prog w h₀ Cc (cap scope sc ρ) t1 (inj x) ρ' ∧ (∀ q ∈ cap scope sc ρ, q ∈ ρ') ∧ IfsD prog w h₀ Cc ρ' f1 b ∧ (b = false → (ys x).flatMap (f x) = []) ∧
      (b = true → ∃ src2, EvD prog w h₀ Cc ρ' i2 src2 ∧ IterD src2 ((ys x).map (inj2 x)) ∧ ∀ y ∈ ys x, ∀ Cc', InComp C scope sc Cc' → TurnD prog w h₀ Cc' ρ' t2 elt f2 (inj2 x y) (f x y)))
    (hfold2 : ∀ env x, foldedSetIterable i2 env x = pure x) :
    ∀ Cb I acc s, CompIn h₀ C scope Cb I acc → Sat h₀ (Cb.also I) (capt scope C.env ρ) s → Fills (Cb.also I) acc [] s.heap → ItAt prog w C.A (Cb.also I).X I (xs.map inj) s.heap → ∀ R : Result → Shared → Prop,
      (∀ s', Sat h₀ Cb (capt scope C.env ρ) s' → Fills Cb acc (xs.flatMap fun x => (ys x).flatMap (f x)) s'.heap → KeepsW (fun a => Cb.W a ∨ a = acc ∨ a = I) s s' → R (.ok .next) s') →
      codeAny (model prog w) C.A (.compLoop (.ListComp elt [⟨t1, i1, f1, 0⟩, ⟨t2, i2, f2, 0⟩] scope pos) 0 (.ref I) (.ref acc) Cb.env) R s := by
  intro Cb I acc s K S F T R hR
  rw [capt_eq hsc] at S hR
  have hA := K.A
  rw [← hA] at T ⊢
  refine loop_D (ρ := cap scope sc ρ) inj (fun x => (ys x).flatMap (f x)) K.good (turn20 elt t1 i1 t2 i2 f1 f2 scope pos I acc Cb.env) K.xacc K.wacc K.acc0 K.xI K.I0 xs (fun x hx => ?_) [] s R S F T (by simpa using hsz) fun s' S' F' k' => hR s' S' (by simpa using F') k'
  obtain ⟨ρ', b, h1, h2, h3, h5, h4⟩ := hbody x hx _ (K.inComp hsc)
  refine ⟨ρ', b, h1, h2, h3, fun hb => ?_, h5⟩
  obtain ⟨src2, hs2, hi2, ht2⟩ := h4 hb
  intro out s₁ H₁ F₁ hsz₁
  refine wpAny_bind (hs2.then H₁ fun v s₂ k₂ H₂ i₂ => wpAny_bind (wpAny_standAt (wpAny_bind (wpAny_of_eq (hfold2 _ v) ?_))))
  refine wpAny_bind (wpAny_holding (wpAny_mono (iter_D (prog := prog) (w := w) (A := (Cb.also I).A) K.good.hh H₂.fresh hi2 i₂) (fun it s₃ z => ?_) fun _ _ z => z.elim))
  obtain ⟨rfl, ⟨o, rfl⟩, T₃⟩ := z
  have T3 := T₃ Cb.A ((Cb.also I).also s₂.heap.objs.size).X K.good.hh fun a z => z.imp id fun z => by rw [z]; exact Nat.le_refl _
  obtain ⟨oI, fs, eI, hdI⟩ := T3.obj
  have hof : o.isFreed = false := by
    have := Heap.get?_some_iff.mp eI
    have e2 : (s₂.heap.push o).objs[s₂.heap.objs.size]? = some o := by cases h : s₂.heap; simp [Heap.push]
    rw [show ({ s₂ with heap := s₂.heap.push o } : Shared).heap.objs[s₂.heap.objs.size]? = some o from e2] at this
    obtain ⟨q, q'⟩ := this
    cases q; exact q'
  have H₃ := H₂.also o hof
  have F₃ : Fills ((Cb.also I).also s₂.heap.objs.size) acc out (s₂.heap.push o) := by
    obtain ⟨vs, n, e, i⟩ := F₁
    have e₂ := keeps_get k₂ e
    refine ⟨vs, n, Heap.get?_push_of_some _ e₂, (i.keeps k₂).mono fun b o' nb eb => ⟨fun z => z.elim nb fun z => ?_, Heap.get?_push_of_some _ eb⟩⟩
    rw [z] at eb; exact Nat.lt_irrefl _ (Heap.lt_size eb)
  have nX : ¬ (Cb.also I).X s₂.heap.objs.size := H₂.fresh
  have n0 : h₀.get? s₂.heap.objs.size = none := H₂.old0 (Nat.le_refl _)
  have fin : codeAny (model prog w) Cb.A (.compLoop (.ListComp elt [⟨t1, i1, f1, 0⟩, ⟨t2, i2, f2, 0⟩] scope pos) 1 (.ref s₂.heap.objs.size) (.ref acc) Cb.env)
      (fun r s' => match r with | .ok _ => wpAny (model prog w) (Cb.also I).A (pure ()) (fun _ s' => Sat h₀ (Cb.also I) ρ' s' ∧ Fills (Cb.also I) acc (out ++ (ys x).flatMap (f x)) s'.heap ∧ Keeps2 (Cb.also I).W acc s₁ s') no s' | .error e => cameBackBy (model prog w) (Cb.also I).A (Cb.also I).env no e s')
      { s₂ with heap := s₂.heap.push o } := by
    refine loop_D (C := Cb.also I) (ρ := ρ') (inj2 x) (f x) (K.good.also I) (turn21 elt t1 i1 t2 i2 f1 f2 scope pos s₂.heap.objs.size acc Cb.env) (.inl K.xacc) K.wacc K.acc0 nX n0 (ys x) (fun y hy => ?_) out _ _ H₃ F₃ T3 hsz₁ fun s' S' F' k' => ?_
    · obtain ⟨ρ'', b', g1, g2, g3, g4, g5⟩ := ht2 y hy ((Cb.also I).also s₂.heap.objs.size) ⟨K.A, (K.inComp hsc).scp, (K.inComp hsc).sto⟩
      refine ⟨ρ'', b', g1, g2, g3, fun hb => ?_, g5⟩
      obtain ⟨d, hd, e⟩ := g4 hb
      rw [e]
      exact inner_emit (C := (Cb.also I).also s₂.heap.objs.size) (.inl (.inl K.xacc)) K.acc0 hd
    · refine wpAny_pure ⟨S', F', keepsW_trans (keepsW_of k₂) ?_⟩
      obtain ⟨h', t', rfl, l, kk⟩ := k'
      refine ⟨h', t', rfl, l, fun b o' nb e => kk b o' ?_ (Heap.get?_push_of_some _ e)⟩
      rintro (z | z | z)
      · exact nb (.inl z)
      · exact nb (.inr z)
      · rw [z] at e; exact Nat.lt_irrefl _ (Heap.lt_size e)
  exact wpAny_bind (wpAny_runOwn (start1 fin (T3.self fin)))
/-- two clauses: the first one's items go through f, a list each -/
theorem ev_comp2 {α β : Type} {elt t1 i1 t2 i2 : Expr} {f1 f2 : List Expr} {scope sc : Scope} {pos : Pos} {src : D} (xs : List α) (inj : α → D) (ys : α → List β) (inj2 : α → β → D) (f : α → β → List D) (hsc : C.env.scope = sc) (hok : scopeOk scope sc = true)
    (hsrc : EvD prog w h₀ C ρ i1 src) (hit : IterD src (xs.map inj)) (hsz : (xs.flatMap fun x => (ys x).flatMap (f x)).length ≤ sizeLine)
    (hbody : ∀ x ∈ xs, ∀ Cc, InComp C scope sc Cc → ∃ ρ' b, AsgD prog w h₀ Cc (cap scope sc ρ) t1 (inj x) ρ' ∧ (∀ q ∈ cap scope sc ρ, q ∈ ρ') ∧ IfsD prog w h₀ Cc ρ' f1 b ∧ (b = false → (ys x).flatMap (f x) = []) ∧
      (b = true → ∃ src2, EvD prog w h₀ Cc ρ' i2 src2 ∧ IterD src2 ((ys x).map (inj2 x)) ∧ ∀ y ∈ ys x, ∀ Cc', InComp C scope sc Cc' → TurnD prog w h₀ Cc' ρ' t2 elt f2 (inj2 x y) (f x y)))
    (hfold : ∀ env x, foldedSetIterable i1 env x = pure x := by intro _ _; rfl) (hfold2 : ∀ env x, foldedSetIterable i2 env x = pure x := by intro _ _; rfl) :
    EvD prog w h₀ C ρ (.ListComp elt [⟨t1, i1, f1, 0⟩, ⟨t2, i2, f2, 0⟩] scope pos) (.list (xs.flatMap fun x => (ys x).flatMap (f x))) := fun s H => by
  obtain ⟨p1, p2, p3⟩ := scope_parts hsc hok
  rw [eval_ListComp]
  exact comp_core (use := none) hsrc hit p1 p2 p3 (hfold _) (loop2 xs inj ys inj2 f hsc hsz hbody hfold2) H fun v s' k i => ⟨k, i⟩
end
end Mine

set_option Elab.async false
set_option linter.unusedVariables false
set_option linter.unusedSimpArgs false
namespace Mine
section
variable {prog : Program} {w : World} {h₀ : Heap} {C : Cx} {ρ : Vs}

/-! several expressions -/
def EvsD (prog : Program) (w : World) (h₀ : Heap) (C : Cx) (ρ : Vs) (es : List Expr) (ds : List D) : Prop :=
  ∀ pos s, Sat h₀ C ρ s → wpAny (model prog w) C.A (spliced (backTo pos (starEach es C.env))) (fun vs s' => Keeps s s' ∧ IsAll C.X s'.heap vs ds) no s
theorem evs_nil : EvsD prog w h₀ C ρ [] [] := fun pos s H => wpAny_items_nil ⟨keeps_refl s, .nil⟩
theorem evs_cons {e : Expr} {rest : List Expr} {d : D} {ds : List D} (h : EvD prog w h₀ C ρ e d) (hr : EvsD prog w h₀ C ρ rest ds)
    (he : ∀ env, starEach (e :: rest) env = (false, eval e env) :: starEach rest env := by intro _; rfl) : EvsD prog w h₀ C ρ (e :: rest) (d :: ds) := fun pos s H =>
  wpAny_items_cons (h.then H fun v s₁ k₁ H₁ i₁ => wpAny_mono (hr pos s₁ H₁) (fun vs s₂ z => ⟨keeps_trans k₁ z.1, .cons (i₁.keeps z.1) z.2⟩) fun _ _ z => z) (he _)
theorem EvsD.then {es : List Expr} {ds : List D} (h : EvsD prog w h₀ C ρ es ds) {pos : Pos} {s : Shared} (H : Sat h₀ C ρ s) {Q : List Value → Shared → Prop} {E : Value → Shared → Prop}
    (k : ∀ vs s', Keeps s s' → Sat h₀ C ρ s' → IsAll C.X s'.heap vs ds → Q vs s') : wpAny (model prog w) C.A (spliced (backTo pos (starEach es C.env))) Q E s :=
  wpAny_mono (h pos s H) (fun v s' z => k v s' z.1 (H.keeps z.1) z.2) fun _ _ z => z.elim

theorem ev_tuple {es : List Expr} {k : Nat} {pos : Pos} {ds : List D} (h : EvsD prog w h₀ C ρ es ds) (hsz : ds.length ≤ sizeLine := by decide) : EvD prog w h₀ C ρ (.Tuple es k pos) (.tup ds) := fun s H =>
  wpAny_Tuple (h.then H fun vs s₁ k₁ H₁ i₁ => ⟨by rw [i₁.length]; exact hsz, keeps_trans k₁ (keeps_push _ _), .tup H₁.fresh (n := 0) (Heap.get?_push_size _ rfl) (i₁.keeps (keeps_push _ _))⟩)
theorem ev_list {es : List Expr} {pos : Pos} {ds : List D} (h : EvsD prog w h₀ C ρ es ds) (hsz : ds.length ≤ sizeLine := by decide) : EvD prog w h₀ C ρ (.List es pos) (.list ds) := fun s H =>
  wpAny_List (h.then H fun vs s₁ k₁ H₁ i₁ => ⟨by rw [i₁.length]; exact hsz, keeps_trans k₁ (keeps_push _ _), .list H₁.fresh (n := 0) (Heap.get?_push_size _ rfl) (i₁.keeps (keeps_push _ _))⟩)

/-! global names -/
theorem ev_glob {x : Str} {pos : Pos} {mg : Str → Option Value} {v : Value} {sc : Scope} (hg : h₀.Ns mainGlobals mg) (hv : mg x = some v) (hsc : C.env.scope = sc) (hk : sc.names.lookup x = some .globalImplicit)
    (hd : (x == ("__debug__" : Str)) = false := by decide +kernel) : EvV prog w h₀ C ρ (.Name x pos) v := fun s H => by
  subst hsc
  refine Calls.Name_function_global H.good.fn hk (Calls.loadGlobal_global (mg := mg) ?_ hv ⟨keeps_refl s, rfl⟩) hd
  rw [H.good.glob]; exact hg.keeps H.top
theorem ev_bi {x : Str} {pos : Pos} {mg mb : Str → Option Value} {v : Value} {sc : Scope} (hg : h₀.Ns mainGlobals mg) (hm : mg x = none) (hb : h₀.Ns builtinsNs mb) (hv : mb x = some v) (hsc : C.env.scope = sc) (hk : sc.names.lookup x = some .globalImplicit)
    (hd : (x == ("__debug__" : Str)) = false := by decide +kernel) : EvV prog w h₀ C ρ (.Name x pos) v := fun s H => by
  subst hsc
  refine Calls.Name_function_global H.good.fn hk (Calls.loadGlobal_builtin (mg := mg) ?_ hm ?_ hv ⟨keeps_refl s, rfl⟩) hd
  · rw [H.good.glob]; exact hg.keeps H.top
  · rw [H.good.bi]; exact hb.keeps H.top

/-! calls -/
structure Room (A : Around) (n : Nat) : Prop where
  hh : A.handled = none
  depth : A.depth + n < recursionLimit
  units : A.units + 100 + 4 * n < cLine
theorem Room.less {A : Around} {n m : Nat} (r : Room A n) (h : m ≤ n) : Room A m := ⟨r.hh, by have := r.depth; omega, by have := r.units; omega⟩

/-- what a call of f with these data gives back; n frames at most stand on the call's -/
def FnD (prog : Program) (w : World) (h₀ : Heap) (f : Addr) (n : Nat) (ds : List D) (d : D) : Prop :=
  ∀ (A : Around) (X : Addr → Prop) (s : Shared) (vs : List Value), Room A n → s.gens = #[] → @LE.le Nat _ 1 s.toks → (∀ b o, h₀.get? b = some o → s.heap.get? b = some o) → (∀ a, X a → ∃ o, s.heap.get? a = some o) → IsAll X s.heap vs ds →
    wpAny (model prog w) A (call (.ref f) vs) (fun v s' => Keeps s s' ∧ Is X s'.heap v d) no s

theorem ev_call {id : Str} {p pos : Pos} {e : Expr} {rest : List Expr} {f : Addr} {o : Obj} {fd : FuncData} {n : Nat} {ds : List D} {d : D} (hf : EvV prog w h₀ C ρ (.Name id p) (.ref f)) (ho : h₀.get? f = some o) (hd : o.data = .func fd)
    (hargs : EvsD prog w h₀ C ρ (e :: rest) ds) (hfn : FnD prog w h₀ f n ds d) (hr : Room C.A n) (he : ∀ env, starEach (e :: rest) env = (false, eval e env) :: starEach rest env := by intro _; rfl) :
    EvD prog w h₀ C ρ (.Call (.Name id p) (e :: rest) [] pos) d := fun s H => by
  refine wpAny_Call_Name_kw (hf.then H fun s₁ k₁ H₁ => ?_)
  refine callWith_def hd (hargs.then H₁ fun vs s₂ k₂ H₂ i₂ => ⟨H₂.top _ _ ho, ?_⟩) (he _)
  exact wpAny_mono (hfn C.A C.X s₂ vs hr H₂.gens H₂.toks H₂.top H₂.alloc i₂) (fun v s₃ z => ⟨keeps_trans k₁ (keeps_trans k₂ z.1), z.2⟩) fun _ _ z => z
/-- a built-in function's call -/
def BiD (prog : Program) (w : World) (h₀ : Heap) (C : Cx) (ρ : Vs) (f : Value) (ds : List D) (d : D) : Prop :=
  ∀ s vs, Sat h₀ C ρ s → IsAll C.X s.heap vs ds → wpAny (model prog w) C.A (call f vs) (fun v s' => Keeps s s' ∧ Is C.X s'.heap v d) no s
theorem ev_callB {id : Str} {p pos : Pos} {e : Expr} {rest : List Expr} {b : String} {ds : List D} {d : D} (hf : EvV prog w h₀ C ρ (.Name id p) (.builtin b))
    (hargs : EvsD prog w h₀ C ρ (e :: rest) ds) (hb : BiD prog w h₀ C ρ (.builtin b) ds d) (he : ∀ env, starEach (e :: rest) env = (false, eval e env) :: starEach rest env := by intro _; rfl)
    (hplain : ∀ pos env, (backTo pos (starEach rest env)).any (·.1) = false := by intro _ _; rfl) :
    EvD prog w h₀ C ρ (.Call (.Name id p) (e :: rest) [] pos) d := fun s H => by
  refine wpAny_Call_Name_kw (hf.then H fun s₁ k₁ H₁ => ?_)
  refine callWith_builtin1 (hargs.then H₁ fun vs s₂ k₂ H₂ i₂ => ?_) (he _) (hplain _ _)
  exact wpAny_mono (hb s₂ vs H₂ i₂) (fun v s₃ z => ⟨keeps_trans k₁ (keeps_trans k₂ z.1), z.2⟩) fun _ _ z => z
theorem ev_callT {id : Str} {p pos : Pos} {e : Expr} {rest : List Expr} {T : String} {ds : List D} {d : D} (hf : EvV prog w h₀ C ρ (.Name id p) (.type T))
    (hargs : EvsD prog w h₀ C ρ (e :: rest) ds) (hb : BiD prog w h₀ C ρ (.type T) ds d) (he : ∀ env, starEach (e :: rest) env = (false, eval e env) :: starEach rest env := by intro _; rfl)
    (hplain : ∀ pos env, (backTo pos (starEach rest env)).any (·.1) = false := by intro _ _; rfl) :
    EvD prog w h₀ C ρ (.Call (.Name id p) (e :: rest) [] pos) d := fun s H => by
  refine wpAny_Call_Name_kw (hf.then H fun s₁ k₁ H₁ => ?_)
  refine PyProof.Rows.callWith_type1 (hargs.then H₁ fun vs s₂ k₂ H₂ i₂ => ?_) (he _) (hplain _ _)
  exact wpAny_mono (hb s₂ vs H₂ i₂) (fun v s₃ z => ⟨keeps_trans k₁ (keeps_trans k₂ z.1), z.2⟩) fun _ _ z => z

/-! tests and choices -/
theorem tr_of {e : Expr} {d : D} {b : Bool} (h : EvD prog w h₀ C ρ e d) (ht : ∀ v s, Is C.X s.heap v d → ∀ Q E, Q b s → wpAny (model prog w) C.A (truthy v) Q E s)
    (he : ∀ env whole, isTrue e env whole = (do let v ← whole; standAt e.pos; holding [v] (truthy v)) := by intro _ _; rfl) : TrD prog w h₀ C ρ e b := fun s H => by
  rw [he]
  exact wpAny_bind (h.then H fun v s₁ k₁ H₁ i₁ => wpAny_bind (wpAny_standAt (wpAny_holding (ht v s₁ i₁ _ _ ⟨k₁, rfl⟩))))
theorem ev_if {t a b : Expr} {pos : Pos} {c : Bool} {d : D} (ht : TrD prog w h₀ C ρ t c) (ha : c = true → EvD prog w h₀ C ρ a d) (hb : c = false → EvD prog w h₀ C ρ b d) : EvD prog w h₀ C ρ (.IfExp t a b pos) d := fun s H => by
  refine wpAny_IfExp (ht.then H fun s₁ k₁ H₁ => ?_)
  cases c with
  | true => exact (ha rfl).then H₁ fun v s₂ k₂ H₂ i₂ => ⟨keeps_trans k₁ k₂, i₂⟩
  | false => exact (hb rfl).then H₁ fun v s₂ k₂ H₂ i₂ => ⟨keeps_trans k₁ k₂, i₂⟩
theorem tr_and2 {x y : Expr} {pos : Pos} {a b : Bool} (hx : TrD prog w h₀ C ρ x a) (hy : a = true → TrD prog w h₀ C ρ y b) : TrD prog w h₀ C ρ (.BoolOp .And [x, y] pos) (a && b) := fun s H => by
  refine wpAny_isTrue_BoolOp (wpAny_allTrue_And_cons (hx.then H fun s₁ k₁ H₁ => ?_))
  cases a with
  | false => exact ⟨k₁, rfl⟩
  | true =>
    refine wpAny_allTrue_And_cons ((hy rfl).then H₁ fun s₂ k₂ H₂ => ?_)
    cases b with
    | false => exact ⟨keeps_trans k₁ k₂, rfl⟩
    | true => exact wpAny_allTrue_And_nil ⟨keeps_trans k₁ k₂, rfl⟩
theorem tr_or2 {x y : Expr} {pos : Pos} {a b : Bool} (hx : TrD prog w h₀ C ρ x a) (hy : a = false → TrD prog w h₀ C ρ y b) : TrD prog w h₀ C ρ (.BoolOp .Or [x, y] pos) (a || b) := fun s H => by
  refine wpAny_isTrue_BoolOp (wpAny_allTrue_Or_cons (hx.then H fun s₁ k₁ H₁ => ?_))
  cases a with
  | true => exact ⟨k₁, rfl⟩
  | false =>
    refine wpAny_allTrue_Or_cons ((hy rfl).then H₁ fun s₂ k₂ H₂ => ?_)
    cases b with
    | true => exact ⟨keeps_trans k₁ k₂, rfl⟩
    | false => exact wpAny_allTrue_Or_nil ⟨keeps_trans k₁ k₂, rfl⟩
end
end Mine

set_option Elab.async false
set_option linter.unusedVariables false
set_option linter.unusedSimpArgs false
namespace Mine

inductive Out where
  | next (ρ : Vs)
  | ret (d : D)
  | brk (ρ : Vs)

def OutOk (h₀ : Heap) (C : Cx) : Out → Flow → Shared → Prop
  | .next ρ, f, s => f = .next ∧ Sat h₀ C ρ s
  | .ret d, f, s => ∃ v, f = .ret v ∧ Is C.X s.heap v d
  | .brk ρ, f, s => f = .brk ∧ Sat h₀ C ρ s

section
variable {prog : Program} {w : World} {h₀ : Heap} {C : Cx} {ρ : Vs}

def ExD (prog : Program) (w : World) (h₀ : Heap) (C : Cx) (ρ : Vs) (st : Stmt) (o : Out) : Prop :=
  ∀ s, Sat h₀ C ρ s → wpAny (model prog w) C.A (exec st C.env) (fun f s' => KeepsW C.W s s' ∧ OutOk h₀ C o f s') no s
def ExsD (prog : Program) (w : World) (h₀ : Heap) (C : Cx) (ρ : Vs) (sts : List Stmt) (o : Out) : Prop :=
  ∀ s, Sat h₀ C ρ s → wpAny (model prog w) C.A (execs sts C.env) (fun f s' => KeepsW C.W s s' ∧ OutOk h₀ C o f s') no s

theorem ExsD.sub {ρ' : Vs} {sts : List Stmt} {o : Out} (h : ExsD prog w h₀ C ρ sts o) (hs : ∀ p ∈ ρ, p ∈ ρ') : ExsD prog w h₀ C ρ' sts o := fun s H => h s (H.sub hs)
theorem ExD.sub {ρ' : Vs} {sts : Stmt} {o : Out} (h : ExD prog w h₀ C ρ sts o) (hs : ∀ p ∈ ρ, p ∈ ρ') : ExD prog w h₀ C ρ' sts o := fun s H => h s (H.sub hs)
theorem ExD.less {ρ' ρ'' : Vs} {st : Stmt} (h : ExD prog w h₀ C ρ st (.next ρ')) (hs : ∀ p ∈ ρ'', p ∈ ρ') : ExD prog w h₀ C ρ st (.next ρ'') := fun s H =>
  wpAny_mono (h s H) (fun f s' z => ⟨z.1, z.2.1, z.2.2.sub hs⟩) fun _ _ z => z
theorem ExsD.less {ρ' ρ'' : Vs} {st : List Stmt} (h : ExsD prog w h₀ C ρ st (.next ρ')) (hs : ∀ p ∈ ρ'', p ∈ ρ') : ExsD prog w h₀ C ρ st (.next ρ'') := fun s H =>
  wpAny_mono (h s H) (fun f s' z => ⟨z.1, z.2.1, z.2.2.sub hs⟩) fun _ _ z => z
theorem exs_nil : ExsD prog w h₀ C ρ [] (.next ρ) := fun s H => wpAny_execs_nil ⟨keepsW_refl _ s, rfl, H⟩
theorem exs_cons {st : Stmt} {rest : List Stmt} {ρ' : Vs} {o : Out} (h : ExD prog w h₀ C ρ st (.next ρ')) (hr : ExsD prog w h₀ C ρ' rest o) : ExsD prog w h₀ C ρ (st :: rest) o := fun s H => by
  refine wpAny_execs_cons (wpAny_mono (h s H) (fun f s₁ z => ?_) fun _ _ z => z)
  obtain ⟨k₁, rfl, H₁⟩ := z
  exact wpAny_mono (hr s₁ H₁) (fun f s₂ z => ⟨keepsW_trans k₁ z.1, z.2⟩) fun _ _ z => z
theorem exs_ret {st : Stmt} {rest : List Stmt} {d : D} (h : ExD prog w h₀ C ρ st (.ret d)) : ExsD prog w h₀ C ρ (st :: rest) (.ret d) := fun s H => by
  refine wpAny_execs_cons (wpAny_mono (h s H) (fun f s₁ z => ?_) fun _ _ z => z)
  obtain ⟨k₁, v, rfl, i⟩ := z
  exact ⟨k₁, v, rfl, i⟩
theorem exs_brk {st : Stmt} {rest : List Stmt} {ρ' : Vs} (h : ExD prog w h₀ C ρ st (.brk ρ')) : ExsD prog w h₀ C ρ (st :: rest) (.brk ρ') := fun s H => by
  refine wpAny_execs_cons (wpAny_mono (h s H) (fun f s₁ z => ?_) fun _ _ z => z)
  obtain ⟨k₁, rfl, i⟩ := z
  exact ⟨k₁, rfl, i⟩

theorem ex_ret {e : Expr} {pos : Pos} {d : D} (h : EvD prog w h₀ C ρ e d) : ExD prog w h₀ C ρ (.Return (some e) pos) (.ret d) := fun s H =>
  wpAny_Return_some (h.then H fun v s₁ k₁ H₁ i₁ => ⟨keepsW_of k₁, v, rfl, i₁⟩)
theorem ex_brk {pos : Pos} : ExD prog w h₀ C ρ (.Break pos) (.brk ρ) := fun s H => wpAny_Break ⟨keepsW_refl _ s, rfl, H⟩
theorem ex_assign {x : Str} {px pos : Pos} {e : Expr} {d : D} (h : EvD prog w h₀ C ρ e d) (hk : Stores C x) (hs : swapsWith e (some (.Name x px)) pos.line C.env = pure false := by rfl) :
    ExD prog w h₀ C ρ (.Assign [.Name x px] e pos) (.next (put ρ x d)) := fun s H =>
  wpAny_Assign_Name (h.then H fun v s₁ k₁ H₁ i₁ => wpAny_mono (store_name hk H₁ i₁) (fun _ s₂ z => ⟨keepsW_trans (keepsW_of k₁) z.1, rfl, z.2⟩) fun _ _ z => z) hs
theorem ex_aug {x : Str} {px pos : Pos} {op : Operator} {e : Expr} {a b d : D} (hx : (x, a) ∈ ρ) (h : EvD prog w h₀ C ρ e b) (hk : Stores C x)
    (hop : ∀ va vb s, Sat h₀ C ρ s → Is C.X s.heap va a → Is C.X s.heap vb b → wpAny (model prog w) C.A (inplaceOp op va vb) (fun v s' => Keeps s s' ∧ Is C.X s'.heap v d) no s)
    (hn : (x == ("__classdict__" : Str)) = false := by decide +kernel) :
    ExD prog w h₀ C ρ (.AugAssign (.Name x px) op e pos) (.next (put ρ x d)) := fun s H => by
  obtain ⟨v, i, hv⟩ := H.vars _ hx
  have ld : ∀ {Q : Value → Shared → Prop} {E : Value → Shared → Prop}, Q v s → wpAny (model prog w) C.A (loadName C.env x) Q E s := fun {Q E} q => by
    rcases hv with ⟨a, m, b, c⟩ | ⟨a | a, c, b, e⟩
    · exact wpAny_loadName_local H.good.fn a b c q
    · exact wpAny_loadName_cell H.good.fn a b e q
    · exact wpAny_loadName_free H.good.fn a b e q hn
  refine wpAny_AugAssign_Name (ld (h.then H fun vb s₁ k₁ H₁ i₁ => wpAny_mono (hop v vb s₁ H₁ (i.keeps k₁) i₁) (fun r s₂ z => ?_) fun _ _ z => z.elim))
  exact wpAny_mono (store_name hk (H₁.keeps z.1) z.2) (fun _ s₃ y => ⟨keepsW_trans (keepsW_of (keeps_trans k₁ z.1)) y.1, rfl, y.2⟩) fun _ _ z => z
theorem ex_if {t : Expr} {body orelse : List Stmt} {pos : Pos} {c : Bool} {o : Out} (ht : TrD prog w h₀ C ρ t c) (ha : c = true → ExsD prog w h₀ C ρ body o) (hb : c = false → ExsD prog w h₀ C ρ orelse o) : ExD prog w h₀ C ρ (.If t body orelse pos) o := fun s H => by
  refine wpAny_If (ht.then H fun s₁ k₁ H₁ => ?_)
  cases c with
  | true => exact wpAny_mono (ha rfl s₁ H₁) (fun f s₂ z => ⟨keepsW_trans (keepsW_of k₁) z.1, z.2⟩) fun _ _ z => z
  | false => exact wpAny_mono (hb rfl s₁ H₁) (fun f s₂ z => ⟨keepsW_trans (keepsW_of k₁) z.1, z.2⟩) fun _ _ z => z
theorem ex_assignT {target e : Expr} {elts : List Expr} {k : Nat} {tp pos : Pos} {d : D} {ρ' : Vs} (h : EvD prog w h₀ C ρ e d) (ha : AsgD prog w h₀ C ρ (.Tuple elts k tp) d ρ')
    (hs : swapsWithSole [.Tuple elts k tp] e pos.line C.env = pure false := by rfl) (hw : swappedStores [.Tuple elts k tp] e C.env = pure none := by rfl) :
    ExD prog w h₀ C ρ (.Assign [.Tuple elts k tp] e pos) (.next ρ') := fun s H =>
  Assign_Tuple (h.then H fun v s₁ k₁ H₁ i₁ => wpAny_mono (ha v s₁ H₁ i₁) (fun _ s₂ z => ⟨keepsW_trans (keepsW_of k₁) z.1, rfl, z.2⟩) fun _ _ z => z) hs hw
theorem ex_swap2 {e : Expr} {elts : List Expr} {k : Nat} {tp pos : Pos} {x y : Str} {a b : D} (h : EvD prog w h₀ C ρ e (.tup [a, b])) (hx : Stores C x) (hy : Stores C y)
    (hs : swapsWithSole [.Tuple elts k tp] e pos.line C.env = pure false) (hw : swappedStores [.Tuple elts k tp] e C.env = pure (some [x, y])) :
    ExD prog w h₀ C ρ (.Assign [.Tuple elts k tp] e pos) (.next (put (put ρ y b) x a)) := fun s H => by
  refine Assign_Tuple_swapped (names := [x, y]) (h.then H fun v s₁ k₁ H₁ i₁ => ?_) hs hw
  obtain ⟨ad, vs, n, rfl, hX, ho, hs⟩ := i₁.tup_inv
  obtain ⟨v, u, rfl, iv, iu⟩ := hs.two
  refine wpAny_unpackItems_tuple (items := #[v, u]) H.good.hh (isTuple_of ho) fun h' he => ?_
  have k0 : Keeps s₁ { s₁ with heap := h' } := keeps_heap fun b o e => he b o (Nat.ne_of_lt (Heap.lt_size e)) e
  show wpAny _ _ (do holding [v] (bindName C.env y u); holding [] (bindName C.env x v); pure ()) _ _ _
  refine wpAny_bind (wpAny_holding (wpAny_bindName (wpAny_mono (store_name hy (H₁.keeps k0) (iu.keeps k0)) (fun _ s₂ h₂ => ?_) fun _ _ z => z)))
  refine wpAny_bind (wpAny_holding (wpAny_bindName (wpAny_mono (store_name hx h₂.2 ((iv.keeps k0).keepsW h₂.1 H.good.sub)) (fun _ s₃ h₃ => ?_) fun _ _ z => z)))
  exact wpAny_pure ⟨keepsW_trans (keepsW_of (keeps_trans k₁ k0)) (keepsW_trans h₂.1 h₃.1), rfl, h₃.2⟩

/-- a comprehension whose list goes into a local name -/
theorem ex_comp {α : Type} {elt target iter : Expr} {ifs : List Expr} {scope sc : Scope} {y : Str} {py pos spos : Pos} {src : D} (xs : List α) (inj : α → D) (f : α → List D) (hsc : C.env.scope = sc) (hok : scopeOk scope sc = true)
    (hsrc : EvD prog w h₀ C ρ iter src) (hit : IterD src (xs.map inj)) (hsz : (xs.flatMap f).length ≤ sizeLine)
    (hbody : ∀ x ∈ xs, ∀ Cc, InComp C scope sc Cc → TurnD prog w h₀ Cc (cap scope sc ρ) target elt ifs (inj x) (f x)) (hy : Stores C y)
    (hsw : swapsWith (.ListComp elt [⟨target, iter, ifs, 0⟩] scope pos) (some (.Name y py)) spos.line C.env = pure true) (hfold : ∀ env x, foldedSetIterable iter env x = pure x := by intro _ _; rfl) :
    ExD prog w h₀ C ρ (.Assign [.Name y py] (.ListComp elt [⟨target, iter, ifs, 0⟩] scope pos) spos) (.next (put ρ y (.list (xs.flatMap f)))) := fun s H => by
  obtain ⟨p1, p2, p3⟩ := scope_parts hsc hok
  rw [exec_Assign_Name_used _ _ _ _ hsw]
  refine wpAny_bind (wpAny_standAt (wpAny_bind ?_))
  show wpAny _ C.A (do let _ ← comprehension (.ListComp elt [⟨target, iter, ifs, 0⟩] scope pos) scope C.env _ (newList []) false (eval iter C.env) (some (assign (.Name y py) C.env))) _ _ s
  refine wpAny_bind (wpAny_mono (comp_core (use := some (assign (.Name y py) C.env)) (E := no) (Q := fun _ s' => KeepsW C.W s s' ∧ Sat h₀ C (put ρ y (.list (xs.flatMap f))) s') hsrc hit p1 p2 p3 (hfold _) (loop1 xs inj f hsc hsz hbody) H ?_)
    (fun _ s' z => wpAny_pure (wpAny_pure ⟨z.1, rfl, z.2⟩)) fun _ _ z => z)
  intro v s' L k SL iL wL nL lne cne n0 nX nL0
  refine wpAny_assign_Name (wpAny_mono (store_name (C := C.also L) (d := .list (xs.flatMap f)) hy SL iL) (fun _ s'' z => ⟨z.1, fun h' hs => ?_⟩) fun _ _ z => z)
  have kw : KeepsW (· = L) s'' { s'' with heap := h' } := ⟨h', _, rfl, Nat.le_refl _, fun b o nb e => (hs.2 b nb).trans e⟩
  refine ⟨?_, z.2.drop H.good nX lne cne n0 kw⟩
  obtain ⟨h1, t1, e1, l1, k1⟩ := keepsW_trans (keepsW_of (W := C.W) k) z.1
  subst e1
  exact ⟨h', t1, rfl, l1, fun b o nb e => (hs.2 b fun q => by rw [q, nL0] at e; cases e).trans (k1 b o nb e)⟩

/-- a comprehension whose list goes into a local name -/
theorem ex_comp2 {α β : Type} {elt t1 i1 t2 i2 : Expr} {f1 f2 : List Expr} {scope sc : Scope} {y : Str} {py pos spos : Pos} {src : D} (xs : List α) (inj : α → D) (ys : α → List β) (inj2 : α → β → D) (f : α → β → List D) (hsc : C.env.scope = sc) (hok : scopeOk scope sc = true)
    (hsrc : EvD prog w h₀ C ρ i1 src) (hit : IterD src (xs.map inj)) (hsz : (xs.flatMap fun x => (ys x).flatMap (f x)).length ≤ sizeLine)
    (hbody : ∀ x ∈ xs, ∀ Cc, InComp C scope sc Cc → ∃ ρ' b, AsgD prog w h₀ Cc (cap scope sc ρ) t1 (inj x) ρ' ∧ (∀ q ∈ cap scope sc ρ, q ∈ ρ') ∧ IfsD prog w h₀ Cc ρ' f1 b ∧ (b = false → (ys x).flatMap (f x) = []) ∧
      (b = true → ∃ src2, EvD prog w h₀ Cc ρ' i2 src2 ∧ IterD src2 ((ys x).map (inj2 x)) ∧ ∀ y ∈ ys x, ∀ Cc', InComp C scope sc Cc' → TurnD prog w h₀ Cc' ρ' t2 elt f2 (inj2 x y) (f x y))) (hy : Stores C y)
    (hsw : swapsWith (.ListComp elt [⟨t1, i1, f1, 0⟩, ⟨t2, i2, f2, 0⟩] scope pos) (some (.Name y py)) spos.line C.env = pure true) (hfold : ∀ env x, foldedSetIterable i1 env x = pure x := by intro _ _; rfl) (hfold2 : ∀ env x, foldedSetIterable i2 env x = pure x := by intro _ _; rfl) :
    ExD prog w h₀ C ρ (.Assign [.Name y py] (.ListComp elt [⟨t1, i1, f1, 0⟩, ⟨t2, i2, f2, 0⟩] scope pos) spos) (.next (put ρ y (.list (xs.flatMap fun x => (ys x).flatMap (f x))))) := fun s H => by
  obtain ⟨p1, p2, p3⟩ := scope_parts hsc hok
  rw [exec_Assign_Name_used _ _ _ _ hsw]
  refine wpAny_bind (wpAny_standAt (wpAny_bind ?_))
  show wpAny _ C.A (do let _ ← comprehension (.ListComp elt [⟨t1, i1, f1, 0⟩, ⟨t2, i2, f2, 0⟩] scope pos) scope C.env _ (newList []) false (eval i1 C.env) (some (assign (.Name y py) C.env))) _ _ s
  refine wpAny_bind (wpAny_mono (comp_core (use := some (assign (.Name y py) C.env)) (E := no) (Q := fun _ s' => KeepsW C.W s s' ∧ Sat h₀ C (put ρ y (.list (xs.flatMap fun x => (ys x).flatMap (f x)))) s') hsrc hit p1 p2 p3 (hfold _) (loop2 xs inj ys inj2 f hsc hsz hbody hfold2) H ?_)
    (fun _ s' z => wpAny_pure (wpAny_pure ⟨z.1, rfl, z.2⟩)) fun _ _ z => z)
  intro v s' L k SL iL wL nL lne cne n0 nX nL0
  refine wpAny_assign_Name (wpAny_mono (store_name (C := C.also L) (d := .list (xs.flatMap fun x => (ys x).flatMap (f x))) hy SL iL) (fun _ s'' z => ⟨z.1, fun h' hs => ?_⟩) fun _ _ z => z)
  have kw : KeepsW (· = L) s'' { s'' with heap := h' } := ⟨h', _, rfl, Nat.le_refl _, fun b o nb e => (hs.2 b nb).trans e⟩
  refine ⟨?_, z.2.drop H.good nX lne cne n0 kw⟩
  obtain ⟨h1, t1, e1, l1, k1⟩ := keepsW_trans (keepsW_of (W := C.W) k) z.1
  subst e1
  exact ⟨h', t1, rfl, l1, fun b o nb e => (hs.2 b fun q => by rw [q, nL0] at e; cases e).trans (k1 b o nb e)⟩

/-! loops -/
/-- while, from here on -/
def WhD (prog : Program) (w : World) (h₀ : Heap) (C : Cx) (ρ : Vs) (t : Expr) (body : List Stmt) (o : Out) : Prop :=
  ∀ s, Sat h₀ C ρ s → codeAny (model prog w) C.A (.whileLoop t body [] C.env) (fun r s' => match r with | .ok f => KeepsW C.W s s' ∧ OutOk h₀ C o f s' | .error _ => False) s
theorem ex_while {t : Expr} {body : List Stmt} {pos : Pos} {o : Out} (h : WhD prog w h₀ C ρ t body o) : ExD prog w h₀ C ρ (.While t body [] pos) o := fun s H =>
  wpAny_While (codeAny_mono (h s H) fun r s' z => by cases r with | ok f => exact z | error e => exact z.elim)
theorem WhD.sub {ρ' : Vs} {t : Expr} {body : List Stmt} {o : Out} (h : WhD prog w h₀ C ρ t body o) (hs : ∀ p ∈ ρ, p ∈ ρ') : WhD prog w h₀ C ρ' t body o := fun s H => h s (H.sub hs)
theorem wh_done {t : Expr} {body : List Stmt} (ht : TrD prog w h₀ C ρ t false) : WhD prog w h₀ C ρ t body (.next ρ) := fun s H => by
  refine codeAny_of_tree ?_
  show wpAny _ C.A ((whileTurn t body [] C.env).onRaise (fun x => do noteFrame x C.env; theTreesLotGoes x)) _ _ s
  refine wpAny_noted ?_
  simp only [whileTurn]
  refine wpAny_bind (ht.then H fun s₁ k₁ H₁ => ?_)
  simp only [Bool.false_eq_true, if_false]
  exact wpAny_bind (wpAny_execs_nil (wpAny_pure ⟨keepsW_of k₁, rfl, H₁⟩))
theorem wh_turn {t : Expr} {body : List Stmt} {ρ' : Vs} {o : Out} (ht : TrD prog w h₀ C ρ t true) (hb : ExsD prog w h₀ C ρ body (.next ρ')) (hr : WhD prog w h₀ C ρ' t body o) : WhD prog w h₀ C ρ t body o := fun s H => by
  refine codeAny_of_tree ?_
  show wpAny _ C.A ((whileTurn t body [] C.env).onRaise (fun x => do noteFrame x C.env; theTreesLotGoes x)) _ _ s
  refine wpAny_noted ?_
  simp only [whileTurn]
  refine wpAny_bind (ht.then H fun s₁ k₁ H₁ => ?_)
  simp only [if_true]
  refine wpAny_bind (wpAny_mono (hb s₁ H₁) (fun f s₂ z => ?_) fun _ _ z => z.elim)
  obtain ⟨k₂, rfl, H₂⟩ := z
  refine wpAny_pure ⟨rfl, codeAny_mono (hr s₂ H₂) fun r s' y => ?_⟩
  cases r with
  | ok f => exact ⟨keepsW_trans (keepsW_of k₁) (keepsW_trans k₂ y.1), y.2⟩
  | error e => exact y.elim

/-- for, from here on: ds is what is left -/
def ForD (prog : Program) (w : World) (h₀ : Heap) (C : Cx) (ρ : Vs) (target : Expr) (body : List Stmt) (ds : List D) (o : Out) : Prop :=
  ∀ I s, Good h₀ C → ¬ C.X I → h₀.get? I = none → Sat h₀ (C.also I) ρ s → ItAt prog w C.A (C.also I).X I ds s.heap →
    codeAny (model prog w) C.A (.forLoop target (.ref I) body [] C.env) (fun r s' => match r with | .ok f => KeepsW (fun a => C.W a ∨ a = I) s s' ∧ OutOk h₀ C o f s' | .error _ => False) s
theorem ForD.sub {ρ' : Vs} {t : Expr} {body : List Stmt} {ds : List D} {o : Out} (h : ForD prog w h₀ C ρ t body ds o) (hs : ∀ p ∈ ρ, p ∈ ρ') : ForD prog w h₀ C ρ' t body ds o := fun I s G a b H T => h I s G a b (H.sub hs) T
theorem ex_for_at {target iter : Expr} {body : List Stmt} {pos : Pos} {src : D} {ds : List D} {o : Out} {s : Shared} (H : Sat h₀ C ρ s) (hs : wpAny (model prog w) C.A (eval iter C.env) (fun v s' => Keeps s s' ∧ Is C.X s'.heap v src) no s) (hi : IterD src ds) (h : ForD prog w h₀ C ρ target body ds o)
    (hfold : ∀ env x, foldedSetIterable iter env x = pure x := by intro _ _; rfl) : wpAny (model prog w) C.A (exec (.For target iter body [] pos) C.env) (fun f s' => KeepsW C.W s s' ∧ OutOk h₀ C o f s') no s := by
  refine wpAny_For (wpAny_mono hs (fun v s₁ z => ?_) fun _ _ z => z) (hfold _)
  obtain ⟨k₁, i₁⟩ := z
  have H₁ := H.keeps k₁
  refine (wpAny_mono (iter_D (prog := prog) (w := w) H.good.hh H₁.fresh hi i₁) (fun it s₂ z => ?_) fun _ _ z => z.elim)
  obtain ⟨rfl, ⟨ob, rfl⟩, T⟩ := z
  have T := T C.A (C.also s₁.heap.objs.size).X H.good.hh fun a z => z.imp id fun z => by rw [z]; exact Nat.le_refl _
  obtain ⟨oI, fs, eI, hdI⟩ := T.obj
  have hof : ob.isFreed = false := by
    have := Heap.get?_some_iff.mp eI
    have e2 : (s₁.heap.push ob).objs[s₁.heap.objs.size]? = some ob := by cases h : s₁.heap; simp [Heap.push]
    rw [show ({ s₁ with heap := s₁.heap.push ob } : Shared).heap.objs[s₁.heap.objs.size]? = some ob from e2] at this
    obtain ⟨q, q'⟩ := this
    cases q; exact q'
  refine codeAny_mono (h s₁.heap.objs.size _ H.good H₁.fresh (H₁.old0 (Nat.le_refl _)) (H₁.also ob hof) T) fun r s' z => ?_
  cases r with
  | error e => exact z.elim
  | ok f =>
    refine ⟨?_, z.2⟩
    obtain ⟨h', t', rfl, l', kk⟩ := z.1
    obtain ⟨h1, t1, rfl, l1, k1⟩ := k₁
    refine ⟨h', t', rfl, Nat.le_trans l1 l', fun b o' nb e => kk b o' ?_ (Heap.get?_push_of_some _ (k1 b o' e))⟩
    rintro (q | q)
    · exact nb q
    · have := Heap.lt_size (k1 b o' e); rw [q] at this; exact Nat.lt_irrefl _ this
theorem ex_for {target iter : Expr} {body : List Stmt} {pos : Pos} {src : D} {ds : List D} {o : Out} (hs : EvD prog w h₀ C ρ iter src) (hi : IterD src ds) (h : ForD prog w h₀ C ρ target body ds o)
    (hfold : ∀ env x, foldedSetIterable iter env x = pure x := by intro _ _; rfl) : ExD prog w h₀ C ρ (.For target iter body [] pos) o := fun s H => ex_for_at H (hs s H) hi h hfold
theorem for_nil {target : Expr} {body : List Stmt} : ForD prog w h₀ C ρ target body [] (.next ρ) := fun I s G nX n0 H T => by
  refine codeAny_of_tree ?_
  show wpAny _ C.A ((forTurn target (.ref I) body [] C.env).onRaise (fun x => do noteFrame x C.env; theTreesLotGoes x)) _ _ s
  refine wpAny_noted ?_
  simp only [forTurn]
  refine wpAny_bind (wpAny_standAt (wpAny_bind (wpAny_onRaise (wpAny_mono (T.next (.inr rfl)) (fun r s₁ z => ?_) fun _ _ z => z.elim))))
  obtain ⟨k₁, rfl⟩ := z
  obtain ⟨o, fs, ho, hd⟩ := T.obj
  refine wpAny_pure ⟨rfl, codeAny_block (wpAny_execs_nil ⟨keepsW_mono (fun a q => .inr q) k₁, rfl, H.alsoOut G nX ho (by rw [hd]; intro _ _ q; cases q) (by rw [hd]; intro _ q; cases q) n0 k₁⟩)⟩
theorem for_head {target : Expr} {body : List Stmt} {d : D} {ds : List D} {ρ' : Vs} {o o' : Out} (ha : ∀ I, AsgD prog w h₀ (C.also I) ρ target d ρ') (hb : ∀ I, ExsD prog w h₀ (C.also I) ρ' body o')
    (hk : match o' with
      | .next ρ'' => ForD prog w h₀ C ρ'' target body ds o
      | .brk ρ'' => o = .next ρ''
      | .ret d => o = .ret d) : ForD prog w h₀ C ρ target body (d :: ds) o := fun I s G nX n0 H T => by
  have hWI : ¬ C.W I := fun q => nX (G.sub _ q)
  refine codeAny_of_tree ?_
  show wpAny _ C.A ((forTurn target (.ref I) body [] C.env).onRaise (fun x => do noteFrame x C.env; theTreesLotGoes x)) _ _ s
  refine wpAny_noted ?_
  simp only [forTurn]
  refine wpAny_bind (wpAny_standAt (wpAny_bind (wpAny_onRaise (wpAny_mono (T.next (.inr rfl)) (fun r s₁ z => ?_) fun _ _ z => z.elim))))
  obtain ⟨k₁, v, rfl, i₁, T₁⟩ := z
  obtain ⟨ob, fs, ho, hd⟩ := T.obj
  obtain ⟨o₁, fs₁, ho₁, hd₁⟩ := T₁.obj
  have H₁ : Sat h₀ (C.also I) ρ s₁ := H.other ho (by rw [hd]; intro _ _ q; cases q) (by rw [hd]; intro _ q; cases q) (.inr rfl) n0 k₁ ⟨_, ho₁⟩
  refine wpAny_bind (T₁.owned target v ?_)
  refine wpAny_bind (wpAny_mono (ha I v s₁ H₁ i₁) (fun _ s₂ z => ?_) fun _ _ z => z.elim)
  obtain ⟨k₂, H₂⟩ := z
  refine wpAny_bind (wpAny_mono (hb I s₂ H₂) (fun f s₃ z => ?_) fun _ _ z => z.elim)
  obtain ⟨k₃, z⟩ := z
  have k13 : KeepsW C.W s₁ s₃ := keepsW_trans k₂ k₃
  have kall : KeepsW (fun a => C.W a ∨ a = I) s s₃ := keepsW_trans (keepsW_mono (fun a q => .inr q) k₁) (keepsW_mono (fun a q => .inl q) k13)
  cases o' with
  | next ρ'' =>
    obtain ⟨rfl, H₃⟩ := z
    refine wpAny_pure ⟨rfl, codeAny_mono (hk I s₃ G nX n0 H₃ (T₁.keep fun b o hb e => keepsW_get k13 (fun q => ?_) e)) fun r s' y => ?_⟩
    · rcases hb with rfl | hb
      · exact hWI q
      · exact hb (.inl (G.sub _ q))
    · cases r with
      | ok f => exact ⟨keepsW_trans kall y.1, y.2⟩
      | error e => exact y.elim
  | brk ρ'' =>
    obtain ⟨rfl, H₃⟩ := z
    subst hk
    exact wpAny_pure ⟨kall, rfl, H₃.also' G⟩
  | ret d' =>
    obtain ⟨u, rfl, i⟩ := z
    subst hk
    exact wpAny_pure ⟨kall, u, rfl, i.less fun a q => .inl q⟩
end
end Mine

set_option Elab.async false
set_option linter.unusedVariables false
set_option linter.unusedSimpArgs false
namespace Mine
section
variable {prog : Program} {w : World} {h₀ : Heap} {C : Cx} {ρ : Vs}

/-- a frame of a function with that table of names -/
structure InFn (C : Cx) (sc : Scope) (n : Nat) : Prop where
  room : Room C.A n
  scp : C.env.scope = sc
  sto : ∀ x, ownIn sc x = true → Stores C x
theorem InFn.also {sc : Scope} {n : Nat} (h : InFn C sc n) (I : Addr) : InFn (C.also I) sc n := ⟨h.room, h.scp, h.sto⟩

theorem bindL_keep {kind : Str → Option NameKind} : ∀ (l : List (Str × Value)) (m : Str → Option Value) (x : Str), (∀ p ∈ l, p.1 ≠ x) → bindL kind l m x = m x
  | [], m, x, _ => rfl
  | (n, v) :: r, m, x, h => by
    unfold bindL
    rw [bindL_keep r _ x fun p hp => h p (.tail _ hp)]
    split
    · exact if_neg fun q : x = n => h (n, v) (.head _) q.symm
    · rfl
theorem bindL_get {kind : Str → Option NameKind} : ∀ (l : List (Str × Value)) (m : Str → Option Value) (x : Str) (v : Value), (l.map (·.1)).Nodup → (x, v) ∈ l → kind x = some .local → bindL kind l m x = some v
  | [], m, x, v, _, h, _ => by simp at h
  | (n, u) :: r, m, x, v, hn, h, hk => by
    simp only [List.map_cons, List.nodup_cons] at hn
    unfold bindL
    rcases List.mem_cons.mp h with q | q
    · cases q
      rw [bindL_keep r _ n fun p hp e => hn.1 (e ▸ List.mem_map_of_mem hp), if_pos hk, if_pos rfl]
    · exact bindL_get r _ x v hn.2 q hk
theorem bindC_keep {kind : Str → Option NameKind} : ∀ (l : List (Str × Value)) (m : Str → Option Value) (x : Str), (∀ p ∈ l, p.1 ≠ x) → bindC kind l m x = m x
  | [], m, x, _ => rfl
  | (n, v) :: r, m, x, h => by
    unfold bindC
    rw [bindC_keep r _ x fun p hp => h p (.tail _ hp)]
    split
    · rfl
    · exact if_neg fun q : x = n => h (n, v) (.head _) q.symm
theorem bindC_get {kind : Str → Option NameKind} : ∀ (l : List (Str × Value)) (m : Str → Option Value) (x : Str) (v : Value), (l.map (·.1)).Nodup → (x, v) ∈ l → kind x = some .cell → bindC kind l m x = some v
  | [], m, x, v, _, h, _ => by simp at h
  | (n, u) :: r, m, x, v, hn, h, hk => by
    simp only [List.map_cons, List.nodup_cons] at hn
    unfold bindC
    rcases List.mem_cons.mp h with q | q
    · cases q
      rw [bindC_keep r _ n fun p hp e => hn.1 (e ▸ List.mem_map_of_mem hp), if_neg (by rw [hk]; intro z; cases z), if_pos rfl]
    · exact bindC_get r _ x v hn.2 q hk

theorem zip_isAll {X : Addr → Prop} {h : Heap} : ∀ {xs : List Str} {vs : List Value} {ds : List D}, IsAll X h vs ds → ∀ p ∈ xs.zip ds, ∃ v, (p.1, v) ∈ xs.zip vs ∧ Is X h v p.2
  | [], _, _, _, p, hp => by simp at hp
  | x :: xs, _, _, .nil, p, hp => by simp at hp
  | x :: xs, _, _, .cons i r, p, hp => by
    simp only [List.zip_cons_cons, List.mem_cons] at hp
    rcases hp with rfl | hp
    · exact ⟨_, by simp, i⟩
    · obtain ⟨v, hv, i'⟩ := zip_isAll r p hp
      exact ⟨v, by simp [hv], i'⟩

def fnOk (sc : Scope) (xs : List Str) : Bool := sc.kind == .function && !sc.isCoroutine && !sc.isGenerator && xs.all (fun x => ownIn sc x) && decide xs.Nodup && sc.names.all (fun p => p.2 != .free)

/-- a frame for one argument: a token is used up -/
theorem newEnv_one {M : Model} {A : Around} {E : Value → Shared → Prop} {s : Shared} {scope : Scope} {globals : Addr} {x : Str} {v : Value} {qual : Str} {func : Option Addr} {code : Value} {builtins : Addr} {Q : Env → Shared → Prop} (hk : scope.kind = .function) (hx : scope.names.lookup x = some .local)
    (hQ : ∀ env, env = newEnv scope s.heap.objs.size globals (cellsFrom (s.heap.objs.size + 1) scope.names []) qual func code none builtins →
      ∀ s', InCallC s env.locals (bindL env.kindOf [(x, v)] fun _ => none) env.cells (bindC env.kindOf [(x, v)] fun _ => none) s' → @LE.le Nat _ 1 s'.toks → Q env s') :
    wpAny M A (newFunctionEnv scope globals [] [(x, v)] qual func code none builtins) Q E s := by
  simp only [newFunctionEnv, Option.isSome_none, Bool.false_eq_true, if_false]
  refine wpAny_bind (wpAny_alloc (wpAny_bind (wpAny_layCells _ (fun name kind cells => by cases hkc : kind == NameKind.cell <;> simp [hkc]) _ _ _ _ ?_)))
  have ok := cellsFrom_ok scope.names (s.heap.push { cls := .type "frame", data := .dict #[] }) (s.heap.objs.size + 1) [] ⟨fun _ _ hm => (nomatch hm), List.Pairwise.nil⟩ (by rw [Heap.size_push]; exact Nat.le_refl _)
  rw [Heap.size_push] at ok
  rw [show ({ s with heap := s.heap.push { cls := .type "frame", data := .dict #[] } } : Shared).heap.objs.size = s.heap.objs.size + 1 from Heap.size_push ..]
  obtain ⟨env, henv⟩ : ∃ env, newEnv scope s.heap.objs.size globals (cellsFrom (s.heap.objs.size + 1) scope.names []) qual func code none builtins = env := ⟨_, rfl⟩
  have e1 : env.scope = scope := by rw [← henv]; rfl
  have e2 : env.locals = s.heap.objs.size := by rw [← henv]; rfl
  have e3 : env.cells = cellsFrom (s.heap.objs.size + 1) scope.names [] := by rw [← henv]; rfl
  have hl : env.kindOf x = some .local := by unfold Env.kindOf; rw [e1]; exact hx
  let s2 : Shared := { s with heap := pushCells (s.heap.push { cls := .type "frame", data := .dict #[] }) scope.names }
  have x0 : InCallC s env.locals (fun _ => none) env.cells (fun _ => none) s2 := by
    rw [e2, e3]
    exact ⟨⟨⟨_, _, rfl⟩, (Heap.Ns.new s.heap (.type "frame")).keeps (pushCells_keeps _ _), fun b o e => pushCells_keeps _ _ b o (Heap.get?_push_of_some _ e), Nat.le_refl _⟩, fun n c hc => (ok.empty n c (mem_of_lookup hc)).1, ok.apart, fun n c hm => (ok.empty n c hm).2⟩
  refine wpAny_bind ?_
  show wpAny M A (forIn [(x, v)] ⟨⟩ fun (p : Str × Value) (_ : PUnit) => (do storeName (newEnv scope s.heap.objs.size globals (cellsFrom (s.heap.objs.size + 1) scope.names []) qual func code none builtins) p.1 p.2; pure (.yield ⟨⟩) : Sem (ForInStep PUnit)))
    (fun _ s' => wpAny M A (pure (newEnv scope s.heap.objs.size globals (cellsFrom (s.heap.objs.size + 1) scope.names []) qual func code none builtins)) Q E s') E s2
  rw [henv]
  rw [List.forIn_cons]
  refine wpAny_bind (wpAny_bind (wpAny_storeName_local hl x0.toInCall.ns (fun h' hn' hs' => wpAny_pure ?_) (by rw [e1, hk]; rfl)))
  dsimp only
  rw [List.forIn_nil]
  refine wpAny_pure (wpAny_pure (hQ env henv.symm _ ?_ (Nat.le_add_left _ _)))
  have e4 : bindL env.kindOf [(x, v)] (fun _ => none) = fun y => if y = x then some v else none := by unfold bindL bindL; rw [if_pos hl]
  have e5 : bindC env.kindOf [(x, v)] (fun _ => none) = fun _ => none := by unfold bindC bindC; rw [if_pos hl]
  rw [e4, e5]
  refine ⟨⟨?_, hn', fun b o e => ?_, x0.toInCall.fresh⟩, fun k c hc => ?_, x0.apart, x0.above⟩
  · obtain ⟨h₁, tk, e⟩ := x0.toInCall.same
    exact ⟨h', _, rfl⟩
  · exact hs'.extBut b o (Nat.ne_of_lt (Nat.lt_of_lt_of_le (Heap.lt_size e) x0.toInCall.fresh)) (x0.toInCall.keep b o e)
  · exact (x0.cell k c hc).sameBut hs' (Nat.ne_of_gt (x0.above k c (mem_of_lookup hc)))

theorem fn_code {f : Addr} {ob : Obj} {fd : FuncData} {body : List Stmt} {xs : List Str} {n : Nat} {ds : List D} {A : Around} {X : Addr → Prop} {s : Shared} {vs : List Value} {R₀ : Result → Shared → Prop} (ho : h₀.get? f = some ob) (hdata : ob.data = .func fd) (hcd : h₀.CodeRec fd.code fd.qualname) (hlim : h₀.NoLimit)
    (hbody : fd.body = .stmts body) (hclo : fd.closure = []) (hglob : fd.globals = mainGlobals) (hbi : fd.builtins = builtinsNs) (hlen : xs.length = ds.length) (hbind : ∀ vs : List Value, vs.length = xs.length → bindArgs fd ⟨vs, []⟩ = pure (xs.zip vs)) (hok : fnOk fd.scope xs = true)
    (R : Room A (n + 1)) (gens : s.gens = #[]) (htok : @LE.le Nat _ 1 s.toks ∨ ∃ x v, xs.zip vs = [(x, v)] ∧ fd.scope.names.lookup x = some .local) (top : ∀ b o, h₀.get? b = some o → s.heap.get? b = some o) (alloc : ∀ a, X a → ∃ o, s.heap.get? a = some o) (i : IsAll X s.heap vs ds)
    (h : ∀ C s₁, InFn C fd.scope n → Sat h₀ C (xs.zip ds) s₁ → Keeps s s₁ → (∀ a, C.W a → s.heap.get? a = none) → (∀ a, C.X a ↔ (X a ∨ C.W a)) →
      wpAny (model prog w) C.A (execs body C.env) (fun f s' => R₀ (.ok (.ret (match f with | .ret v => v | _ => .none))) s') no s₁) : codeAny (model prog w) A (.call (.ref f) ⟨vs, []⟩) R₀ s := by
  unfold fnOk at hok
  simp only [Bool.and_eq_true, beq_iff_eq, Bool.not_eq_true', List.all_eq_true, decide_eq_true_eq, bne_iff_ne, ne_eq] at hok
  obtain ⟨⟨⟨⟨⟨hk, hco⟩, hgen⟩, hown⟩, hnd⟩, hfr⟩ := hok
  have hlv : vs.length = xs.length := by rw [i.length, hlen]
  have hnames : (xs.zip vs).map (·.1) = xs := List.map_fst_zip (by omega)
  have hmem : ∀ p ∈ xs.zip vs, p.1 ∈ xs := fun p hp => by rw [← hnames]; exact List.mem_map_of_mem hp
  have kinds : ∀ x, ownIn fd.scope x = true → fd.scope.names.lookup x = some .local ∨ fd.scope.names.lookup x = some .cell := fun x hx => by
    unfold ownIn at hx
    simpa only [Bool.or_eq_true, beq_iff_eq] using hx
  refine codeAny_call_function (by have := R.depth; omega) (top _ _ ho) hdata hco hgen hbody (hcd.keeps top) ?_
  rw [hbind vs hlv, hclo]
  refine wpAny_pure (wpAny_with_toks (n := s.toks) (Nat.le_refl _) ?_)
  suffices key : ∀ env, env = newEnv fd.scope s.heap.objs.size fd.globals (cellsFrom (s.heap.objs.size + 1) fd.scope.names []) (fd.qualname ++ ".<locals>.") (some f) fd.code none fd.builtins → ∀ s', InCallC s env.locals (bindL env.kindOf (xs.zip vs) fun _ => none) env.cells (bindC env.kindOf (xs.zip vs) fun _ => none) s' → (@LE.le Nat _ 1 s.toks ∨ @LE.le Nat _ 1 s'.toks) → @LE.le Nat _ s.toks s'.toks → (s'.heap.NoLimit ∧ codeAny (model prog w) A (.func body env) R₀ s') from by
    rcases htok with h1 | ⟨x, v, e, hx⟩
    · refine wpAny_newFunctionEnv_cells hk (fun p hp => ?_) fun env he s₁ Y htk => key env he s₁ Y (.inl h1) htk
      rcases kinds _ (hown _ (hmem p hp)) with q | q
      · exact .inl q
      · exact .inr ⟨q, cellsFrom_has _ _ _ _ (.inl (lookup_mem q))⟩
    · rw [e] at key ⊢
      exact newEnv_one hk hx fun env he s₁ Y h2 htk => key env he s₁ Y (.inr h2) htk
  intro env he s₁ Y htok htk
  generalize hL : s.heap.objs.size = L at he
  have henv : callEnvC fd L f = env := he.symm
  have escp : env.scope = fd.scope := by rw [← henv]; rfl
  have eloc : env.locals = L := by rw [← henv]; rfl
  have ecell : env.cells = cellsFrom (L + 1) fd.scope.names [] := by rw [← henv]; rfl
  have ekind : ∀ x, env.kindOf x = fd.scope.names.lookup x := fun x => by unfold Env.kindOf; rw [escp]
  let W' : Addr → Prop := fun a => a = L ∨ ∃ x, env.cells.lookup x = some a
  let C : Cx := ⟨A.deeper env, env, fun a => X a ∨ W' a, W'⟩
  have wge : ∀ a, W' a → s.heap.get? a = none := fun a q => by
    refine get_none_of_le ?_
    rcases q with rfl | ⟨x, e⟩
    · exact Nat.le_of_eq hL
    · have := Y.above _ _ (mem_of_lookup e)
      rw [eloc] at this
      rw [hL]; exact Nat.le_of_lt this
  have w0 : ∀ a, W' a → h₀.get? a = none := fun a q => by
    cases e : h₀.get? a with
    | none => rfl
    | some o => have := top a o e; rw [wge a q] at this; cases this
  have G : Good h₀ C := by
    refine ⟨?_, ?_, ?_, R.hh, fun a q => .inr q, w0, .inl eloc, fun x y c e e' => name_of_addr Y.apart (mem_of_lookup e) (mem_of_lookup e'), fun x hx => ?_⟩
    · show env.scope.kind = _; rw [escp]; exact hk
    · show env.globals = _; rw [← henv]; exact hglob
    · show env.builtins = _; rw [← henv]; exact hbi
    · show (env.cells.lookup x).isSome = true
      rw [ecell]
      refine cellsFrom_has _ _ _ _ (.inl ?_)
      rcases hx with hx | hx
      · have : env.kindOf x = some .cell := hx
        rw [ekind] at this; exact lookup_mem this
      · have : env.kindOf x = some .free := hx
        rw [ekind] at this
        exact absurd rfl (hfr _ (lookup_mem this))
  have I : InFn C fd.scope n := by
    refine ⟨⟨R.hh, ?_, ?_⟩, escp, fun x hx => ?_⟩
    · have := R.depth; show A.depth + 1 + n < _; omega
    · have := R.units; show A.units + 3 + 100 + 4 * n < _; omega
    · rcases kinds x hx with q | q
      · exact .inl ((ekind x).trans q)
      · obtain ⟨c, e⟩ := Option.isSome_iff_exists.mp (cellsFrom_has x fd.scope.names (L + 1) [] (.inl (lookup_mem q)))
        rw [← ecell] at e
        exact .inr ⟨(ekind x).trans q, c, e, .inr ⟨x, e⟩⟩
  obtain ⟨h', tk, es, kk⟩ := Y.done
  have k₁ : Keeps s s₁ := keeps_of0 ⟨h', tk, es, kk⟩ htk
  have S : Sat h₀ C (xs.zip ds) s₁ := by
    refine ⟨G, by rw [es]; exact gens, htok.elim (fun z => Nat.le_trans z htk) id, fun b o e => keeps_get k₁ (top b o e), fun a xa => ?_, ⟨_, Y.toInCall.ns⟩, fun x c e => ⟨_, Y.cell x c e⟩, fun p hp => ?_⟩
    · rcases xa with xa | rfl | ⟨x, e⟩
      · obtain ⟨o, e⟩ := alloc a xa; exact ⟨o, keeps_get k₁ e⟩
      · obtain ⟨o, _, _, e, _⟩ := Y.toInCall.ns; rw [eloc] at e; exact ⟨o, e⟩
      · obtain ⟨o, e', _⟩ := Y.cell x a e; exact ⟨o, e'⟩
    · obtain ⟨v, hv, iv⟩ := zip_isAll i p hp
      refine ⟨v, iv.mono fun b o nb e => ⟨fun z => z.elim nb fun z => (by rw [wge b z] at e; cases e), keeps_get k₁ e⟩, ?_⟩
      have hz : ((xs.zip vs).map (·.1)).Nodup := by rw [hnames]; exact hnd
      rcases kinds p.1 (hown _ (hmem _ hv)) with q | q
      · exact .inl ⟨(ekind _).trans q, _, Y.toInCall.ns, bindL_get _ _ _ _ hz hv ((ekind _).trans q)⟩
      · obtain ⟨c, e⟩ := Option.isSome_iff_exists.mp (cellsFrom_has p.1 fd.scope.names (L + 1) [] (.inl (lookup_mem q)))
        rw [← ecell] at e
        refine .inr ⟨.inl ((ekind _).trans q), c, e, ?_⟩
        have := Y.cell p.1 c e
        rwa [bindC_get _ _ _ _ hz hv ((ekind _).trans q)] at this
  exact ⟨hlim.keeps fun b o e => keeps_get k₁ (top b o e), codeAny_func (wpAny_mono (h C s₁ I S k₁ wge fun a => Iff.rfl) (fun fl s' z => z) fun _ _ z => z.elim)⟩

theorem fn_intro {f : Addr} {ob : Obj} {fd : FuncData} {body : List Stmt} {xs : List Str} {n : Nat} {ds : List D} {d : D} (ho : h₀.get? f = some ob) (hdata : ob.data = .func fd) (hcd : h₀.CodeRec fd.code fd.qualname) (hlim : h₀.NoLimit)
    (hbody : fd.body = .stmts body) (hclo : fd.closure = []) (hglob : fd.globals = mainGlobals) (hbi : fd.builtins = builtinsNs) (hlen : xs.length = ds.length) (hbind : ∀ vs : List Value, vs.length = xs.length → bindArgs fd ⟨vs, []⟩ = pure (xs.zip vs)) (hok : fnOk fd.scope xs = true)
    (h : ∀ C, InFn C fd.scope n → ExsD prog w h₀ C (xs.zip ds) body (.ret d)) : FnD prog w h₀ f (n + 1) ds d := fun A X s vs R gens htok top alloc i => by
  refine wpAny_call (fn_code ho hdata hcd hlim hbody hclo hglob hbi hlen hbind hok R gens (.inl htok) top alloc i fun C s₁ I S k₁ wge hX => ?_)
  refine wpAny_mono (h C I s₁ S) (fun fl s' z => ?_) fun _ _ z => z
  obtain ⟨k₂, v, rfl, iv⟩ := z
  refine ⟨?_, iv.less fun a q => (hX a).mpr (.inl q)⟩
  obtain ⟨h2, t2, e2, l2, k2⟩ := keepsW_trans (keepsW_of (W := C.W) k₁) k₂
  exact ⟨h2, t2, e2, l2, fun b o e => k2 b o (fun q => by rw [wge b q] at e; cases e) e⟩
end
end Mine

set_option Elab.async false
set_option linter.unusedVariables false
set_option linter.unusedSimpArgs false
namespace Mine
open Builtin Builtin.Str

def sliceL {α : Type} (l : List α) (lo hi : Option Int) : List α :=
  (l.drop (lo.elim 0 (clipAt l.length))).take (hi.elim l.length (clipAt l.length) - lo.elim 0 (clipAt l.length))
theorem sliceL_length {α : Type} (l : List α) (lo hi : Option Int) : (sliceL l lo hi).length ≤ l.length := by
  unfold sliceL; simp only [List.length_take, List.length_drop]; omega

theorem IsAll.slice {X : Addr → Prop} {h : Heap} {vs : List Value} {ds : List D} (i : IsAll X h vs ds) (lo hi : Option Int) : IsAll X h (sliceL vs lo hi) (sliceL ds lo hi) := by
  unfold sliceL
  rw [i.length]
  exact (i.drop _).take _

theorem strIdx_eq (x : Str) (lo hi : Option Int) : strSliceIndices lo hi 1 x.length = (List.range (hi.elim x.length (clipAt x.length) - lo.elim 0 (clipAt x.length))).map (lo.elim 0 (clipAt x.length) + ·) := by
  have e : strSliceIndices lo hi 1 x.length = sliceRange ((lo.elim 0 (clipAt x.length) : Nat) : Int) ((hi.elim x.length (clipAt x.length) : Nat) : Int) 1 := by
    unfold strSliceIndices
    simp only [show (1 : Int) > 0 by decide, if_true]
    cases lo <;> cases hi <;> simp [clipAt_cast]
  rw [e, sliceRange_one]
theorem seqIndex_nat {k : Int} {n : Nat} (h0 : 0 ≤ k) (h : k.toNat < n) : seqIndex? k n = some k.toNat := by
  unfold seqIndex?
  simp only [show ¬ k < 0 by omega, if_false]
  rw [if_pos (by simp; omega)]
theorem strSlice_whole (x : Str) (lo hi : Option Int) (h : (strSliceIndices lo hi 1 x.length).length = x.length) : sliceL x.cps.toList lo hi = x.cps.toList := by
  rw [strIdx_eq, List.length_map, List.length_range] at h
  unfold sliceL
  have hl : x.cps.toList.length = x.length := by simp [Str.length]
  rw [hl]
  have hu : hi.elim x.length (clipAt x.length) ≤ x.length := by
    cases hi with
    | none => exact Nat.le_refl _
    | some i => simp only [Option.elim]; unfold clipAt; omega
  rcases Nat.eq_zero_or_pos x.length with z | z
  · have : x.cps.toList = [] := List.eq_nil_of_length_eq_zero (by omega)
    rw [this]; simp
  · have : lo.elim 0 (clipAt x.length) = 0 := by omega
    rw [this] at h ⊢
    rw [h, List.drop_zero]
    exact List.take_of_length_le (by omega)
theorem strSlice_eq (x : Str) (lo hi : Option Int) : (strSliceIndices lo hi 1 x.length).filterMap (x.cps[·]?) = sliceL x.cps.toList lo hi := by
  rw [strIdx_eq, pick_run]
  unfold sliceL
  simp only [Str.length, Array.length_toList]

section
variable {prog : Program} {w : World} {h₀ : Heap} {C : Cx} {ρ : Vs}

/-! items -/
theorem ev_item_list {v i : Expr} {pos : Pos} {ds : List D} {k : Int} {d : D} (hv : EvD prog w h₀ C ρ v (.list ds)) (hi : EvD prog w h₀ C ρ i (.int k)) (h0 : 0 ≤ k) (hfit : k < 2 ^ 63) (hd : ds[k.toNat]? = some d)
    (hs : ∀ o i', subscripted i false o i' = operate [o, i'] (getItem o i') := by intro _ _; rfl) : EvD prog w h₀ C ρ (.Subscript v i pos) d := fun s H =>
  Subscript_ (hv.then H fun o s₁ k₁ H₁ i₁ => hi.then H₁ fun iv s₂ k₂ H₂ i₂ => by
    obtain ⟨a, vs, n, rfl, hX, ho, hall⟩ := (i₁.keeps k₂).list_inv
    obtain ⟨t, rfl⟩ := i₂.int_inv
    obtain ⟨x, ex, ix⟩ := hall.get hd
    exact tail_any (isList_of ho).typeIs slot_list_getitem.lookup (wpAny_getItem_list (isList_of ho) h0 hfit (by simpa using ex) ⟨keeps_trans k₁ k₂, ix⟩) (hs _ _))
theorem ev_item_neg {v i : Expr} {pos : Pos} {ds : List D} {k : Int} {d : D} (hv : EvD prog w h₀ C ρ v (.list ds)) (hi : EvD prog w h₀ C ρ i (.int k)) (h0 : k < 0) (h1 : -(ds.length : Int) ≤ k) (hfit : -(2 ^ 63) ≤ k) (hd : ds[(k + ds.length).toNat]? = some d)
    (hs : ∀ o i', subscripted i false o i' = operate [o, i'] (getItem o i') := by intro _ _; rfl) : EvD prog w h₀ C ρ (.Subscript v i pos) d := fun s H =>
  Subscript_ (hv.then H fun o s₁ k₁ H₁ i₁ => hi.then H₁ fun iv s₂ k₂ H₂ i₂ => by
    obtain ⟨a, vs, n, rfl, hX, ho, hall⟩ := (i₁.keeps k₂).list_inv
    obtain ⟨t, rfl⟩ := i₂.int_inv
    obtain ⟨x, ex, ix⟩ := hall.get hd
    rw [← hall.length] at h1 ex
    exact tail_any (isList_of ho).typeIs slot_list_getitem.lookup (wpAny_getItem_list_neg (isList_of ho) h0 (by simpa using h1) hfit (by simpa using ex) ⟨keeps_trans k₁ k₂, ix⟩) (hs _ _))
theorem ev_item_tup {v i : Expr} {pos : Pos} {ds : List D} {k : Int} {d : D} (hv : EvD prog w h₀ C ρ v (.tup ds)) (hi : EvD prog w h₀ C ρ i (.int k)) (h0 : 0 ≤ k) (hfit : k < 2 ^ 63) (hd : ds[k.toNat]? = some d)
    (hs : ∀ o i', subscripted i false o i' = operate [o, i'] (getItem o i') := by intro _ _; rfl) : EvD prog w h₀ C ρ (.Subscript v i pos) d := fun s H =>
  Subscript_ (hv.then H fun o s₁ k₁ H₁ i₁ => hi.then H₁ fun iv s₂ k₂ H₂ i₂ => by
    obtain ⟨a, vs, n, rfl, hX, ho, hall⟩ := (i₁.keeps k₂).tup_inv
    obtain ⟨t, rfl⟩ := i₂.int_inv
    obtain ⟨x, ex, ix⟩ := hall.get hd
    have hlt : k.toNat < vs.length := by
      rcases Nat.lt_or_ge k.toNat vs.length with q | q
      · exact q
      · rw [List.getElem?_eq_none q] at ex; cases ex
    exact item_tupleT (isTup_of ho) (by omega) hfit (j := k.toNat) (seqIndex_nat h0 hlt) ex ⟨keeps_trans k₁ k₂, ix⟩ (hs _ _))
theorem ev_item_str {v i : Expr} {pos : Pos} {x : Str} {k : Int} {c : Nat} (hv : EvD prog w h₀ C ρ v (.str x)) (hi : EvD prog w h₀ C ρ i (.int k)) (h0 : 0 ≤ k) (hfit : k < 2 ^ 63) (hd : x.cps[k.toNat]? = some c)
    (hs : ∀ o i', subscripted i false o i' = operate [o, i'] (getItem o i') := by intro _ _; rfl) : EvD prog w h₀ C ρ (.Subscript v i pos) (.str ⟨#[c]⟩) := fun s H =>
  Subscript_ (hv.then H fun o s₁ k₁ H₁ i₁ => hi.then H₁ fun iv s₂ k₂ H₂ i₂ => by
    obtain ⟨t, rfl⟩ := i₁.str_inv
    obtain ⟨u, rfl⟩ := i₂.int_inv
    have hlt : k.toNat < x.length := (Array.getElem?_eq_some_iff.mp hd).1
    refine tail_any (typeIs_str _ x t) F.slot_str_getitem.lookup (PyProof.Rows.getItem_str (by simp; omega) (c := c) ?_ ⟨keeps_trans k₁ (keeps_trans k₂ (keeps_toks _ _)), .str _ _⟩) (hs _ _)
    rw [seqIndex_nat h0 hlt]
    exact hd)

/-! slices -/
def PartD (prog : Program) (w : World) (h₀ : Heap) (C : Cx) (ρ : Vs) (e : Option Expr) (k : Option Int) : Prop := match e, k with
  | none, none => True
  | some e, some k => EvD prog w h₀ C ρ e (.int k)
  | _, _ => False
theorem PartD.then {e : Option Expr} {k : Option Int} (h : PartD prog w h₀ C ρ e k) {s : Shared} (H : Sat h₀ C ρ s) {Q : Value → Shared → Prop} {E : Value → Shared → Prop}
    (f : ∀ p s', Keeps s s' → Sat h₀ C ρ s' → p.map (·.1) = k → Q (partValue p) s') : wpAny (model prog w) C.A (evalPart e C.env) Q E s := by
  match e, k, h with
  | none, none, _ => exact wpAny_pure (f none s (keeps_refl s) H rfl)
  | some e, some k, h =>
    refine EvD.then h H fun v s' k' H' i => ?_
    obtain ⟨t, rfl⟩ := i.int_inv
    exact f (some (k, t)) s' k' H' rfl
theorem isPart_of (p : Option (Int × Tok)) : IsPart (partValue p) (p.map (·.1)) := by
  cases p with
  | none => exact .none
  | some q => exact .int q.1 q.2

theorem ev_slice_list {v : Expr} {lo hi : Option Expr} {p pos : Pos} {ds : List D} {a b : Option Int} (hv : EvD prog w h₀ C ρ v (.list ds)) (ha : PartD prog w h₀ C ρ lo a) (hb : PartD prog w h₀ C ρ hi b) (hsz : ds.length ≤ sizeLine) :
    EvD prog w h₀ C ρ (.Subscript v (.Slice lo hi none p) pos) (.list (sliceL ds a b)) := fun s H =>
  Subscript_ (hv.then H fun o s₁ k₁ H₁ i₁ => wpAny_Slice (ha.then H₁ fun pl s₂ k₂ H₂ el => hb.then H₂ fun pu s₃ k₃ H₃ eu => by
    refine wpAny_pure ?_
    have k13 := keeps_trans k₂ k₃
    have kp := keeps_push s₃ { cls := .type "slice", data := .fields #[partValue pl, partValue pu, .none] }
    obtain ⟨ad, vs, n, rfl, hX, ho, hall⟩ := ((i₁.keeps k13).keeps kp).list_inv
    refine tail_any (isList_of ho).typeIs slot_list_getitem.lookup (ops := [.ref s₃.heap.objs.size, .ref ad]) ?_ rfl
    refine wpAny_getItem_list_slice (isList_of ho) (Heap.IsSliceOf.new ..) (isPart_of pl) (isPart_of pu) .none (by simp) ?_ (by rw [List.size_toArray, hall.length]; exact hsz)
    have kq := keeps_push ({ s₃ with heap := s₃.heap.push { cls := .type "slice", data := .fields #[partValue pl, partValue pu, .none] } } : Shared) { cls := .type "list", data := .seq (slicePick vs.toArray (pl.map (·.1)) (pu.map (·.1)) none) }
    refine ⟨keeps_trans k₁ (keeps_trans k13 (keeps_trans kp kq)), ?_⟩
    have hH := H₃.keeps kp
    refine .list (n := 0) (vs := sliceL vs a b) hH.fresh ?_ ((hall.keeps kq).slice a b)
    have e := Heap.get?_push_size (s₃.heap.push { cls := .type "slice", data := .fields #[partValue pl, partValue pu, .none] }) (o := { cls := .type "list", data := .seq (slicePick vs.toArray (pl.map (·.1)) (pu.map (·.1)) none) }) rfl
    refine e.trans ?_
    rw [el, eu, slicePick_plain]
    simp [listObj, sliceL]))
theorem ev_slice_str {v : Expr} {lo hi : Option Expr} {p pos : Pos} {x : Str} {a b : Option Int} (hv : EvD prog w h₀ C ρ v (.str x)) (ha : PartD prog w h₀ C ρ lo a) (hb : PartD prog w h₀ C ρ hi b) (hsz : x.length ≤ sizeLine) :
    EvD prog w h₀ C ρ (.Subscript v (.Slice lo hi none p) pos) (.str ⟨(sliceL x.cps.toList a b).toArray⟩) := fun s H =>
  Subscript_ (hv.then H fun o s₁ k₁ H₁ i₁ => wpAny_Slice (ha.then H₁ fun pl s₂ k₂ H₂ el => hb.then H₂ fun pu s₃ k₃ H₃ eu => by
    refine wpAny_pure ?_
    obtain ⟨t, rfl⟩ := i₁.str_inv
    have kp := keeps_push s₃ { cls := .type "slice", data := .fields #[partValue pl, partValue pu, .none] }
    have kk := keeps_trans k₁ (keeps_trans k₂ (keeps_trans k₃ kp))
    refine tail_any (typeIs_str _ x t) F.slot_str_getitem.lookup (ops := [.ref s₃.heap.objs.size, .str x t]) ?_ rfl
    refine wpAny_getItem_str_slice (l := pl) (u := pu) (st := none) ⟨_, Heap.get?_push_size _ rfl, rfl, rfl⟩ rfl ?_
    have hp : slicePicked x pl pu none = strSliceIndices a b 1 x.length := by unfold slicePicked; rw [el, eu]; rfl
    have hq := strSlice_eq x a b
    unfold sliceMade
    split
    · rename_i hc
      simp only [Option.map_none, Option.getD_none, beq_self_eq_true, Bool.true_and, beq_iff_eq] at hc
      rw [hp] at hc
      refine ⟨kk, ?_⟩
      rw [strSlice_whole x a b hc]
      exact .str _ _
    · refine ⟨?_, ?_⟩
      · rw [hp, hq]
        show (sliceL x.cps.toList a b).toArray.size ≤ sizeLine
        have := sliceL_length x.cps.toList a b
        rw [List.size_toArray]
        have e : x.cps.toList.length = x.length := by simp [Str.length]
        omega
      · rw [hp, hq]
        exact ⟨keeps_trans kk (keeps_toks _ _), .str _ _⟩))
end
end Mine

set_option Elab.async false
set_option linter.unusedVariables false
set_option linter.unusedSimpArgs false
namespace Mine
open Builtin Builtin.Str

mutual
def D.toPy : D → PyData
  | .none => .none
  | .bool b => .bool b
  | .int i => .int i
  | .str x => .str x
  | .list l => .list (D.toPys l)
  | .tup l => .tuple (D.toPys l)
  | .range .. => .none
  | .obj .. => .none
  | .raw _ => .none
def D.toPys : List D → List PyData
  | [] => []
  | d :: r => d.toPy :: D.toPys r
end
mutual
def D.flat : D → Bool
  | .list l => D.flats l
  | .tup l => D.flats l
  | .range .. => false
  | .obj .. => false
  | .raw _ => false
  | _ => true
def D.flats : List D → Bool
  | [] => true
  | d :: r => d.flat && D.flats r
end
mutual
theorem Is.reads {X : Addr → Prop} {h : Heap} : ∀ {v : Value} {d : D}, Is X h v d → d.flat = true → ∃ as, Reads h v d.toPy as
  | _, _, .none, _ => ⟨_, .none⟩
  | _, _, .bool b, _ => ⟨_, .bool b⟩
  | _, _, .int i t, _ => ⟨_, .int i t⟩
  | _, _, .str x t, _ => ⟨_, .str x t⟩
  | _, _, .list ha ho hs, hf => by
    rw [D.flat] at hf
    obtain ⟨as, r⟩ := IsAll.reads hs hf
    rw [D.toPy]
    exact ⟨_, .list ho rfl rfl (by simpa using r)⟩
  | _, _, .tup ha ho hs, hf => by
    rw [D.flat] at hf
    obtain ⟨as, r⟩ := IsAll.reads hs hf
    rw [D.toPy]
    exact ⟨_, .tuple ho rfl rfl (by simpa using r)⟩
theorem IsAll.reads {X : Addr → Prop} {h : Heap} : ∀ {vs : List Value} {ds : List D}, IsAll X h vs ds → D.flats ds = true → ∃ as, ReadsAll h vs (D.toPys ds) as
  | _, _, .nil, _ => ⟨_, .nil⟩
  | _, _, .cons a r, hf => by
    rw [D.flats, Bool.and_eq_true] at hf
    obtain ⟨as, q⟩ := Is.reads a hf.1
    obtain ⟨bs, q'⟩ := IsAll.reads r hf.2
    rw [D.toPys]
    exact ⟨_, .cons q q'⟩
end

theorem ints_all {X : Addr → Prop} {h : Heap} : ∀ {vs : List Value} {ns : List Int}, IsAll X h vs (ns.map D.int) → AllInts vs.toArray ∧ numsOf vs = ns
  | [], [], _ => ⟨by intro v hv; simp at hv, rfl⟩
  | v :: vs, n :: ns, .cons i r => by
    obtain ⟨t, rfl⟩ := i.int_inv
    obtain ⟨a, b⟩ := ints_all r
    refine ⟨fun u hu => ?_, by rw [numsOf, b]⟩
    simp only [List.mem_toArray, List.mem_cons] at hu
    rcases hu with rfl | hu
    · exact ⟨_, _, rfl⟩
    · exact a u (by simpa using hu)

section
variable {prog : Program} {w : World} {h₀ : Heap} {C : Cx} {ρ : Vs}

/-! operators -/
theorem bin_floordiv {a b : Int} (hb : b ≠ 0) (hl : b.natAbs.log2 < 9000) : BinD prog w h₀ C ρ .FloorDiv (.int a) (.int b) (.int (a.fdiv b)) := fun va vb s H ia ib => by
  obtain ⟨t, rfl⟩ := ia.int_inv; obtain ⟨u, rfl⟩ := ib.int_inv
  exact floordiv_int hb ⟨keeps_toks s _, .int _ _⟩ (.inl (PyProof.noPylong_of_log2 hl))
theorem bin_mod {a b : Int} (hb : b ≠ 0) : BinD prog w h₀ C ρ .Mod (.int a) (.int b) (.int (a.fmod b)) := fun va vb s H ia ib => by
  obtain ⟨t, rfl⟩ := ia.int_inv; obtain ⟨u, rfl⟩ := ib.int_inv
  exact mod_int' hb ⟨keeps_toks s _, .int _ _⟩
theorem bin_pow {a n : Int} (hn : 0 ≤ n) (hsz : (Builtin.Int.intBits a : Int) * n ≤ 2 ^ 27) : BinD prog w h₀ C ρ .Pow (.int a) (.int n) (.int (a ^ n.toNat)) := fun va vb s H ia ib => by
  obtain ⟨t, rfl⟩ := ia.int_inv; obtain ⟨u, rfl⟩ := ib.int_inv
  exact PyProof.Rows.pow_int hn hsz ⟨keeps_toks s _, .int _ _⟩
theorem bin_list_add {l m : List D} (hsz : l.length + m.length ≤ sizeLine) : BinD prog w h₀ C ρ .Add (.list l) (.list m) (.list (l ++ m)) := fun va vb s H ia ib => by
  obtain ⟨a, vs, n, rfl, ha, ho, hs⟩ := ia.list_inv
  obtain ⟨b, ws, k, rfl, hb, ho2, hs2⟩ := ib.list_inv
  refine concat_meets ⟨_, ho, rfl⟩ ⟨_, ho2, rfl⟩ noFill_list_add seq_list_add PySem.F.slot_list_add PySem.F.entry_list_add (PySem.F.args_list_add_2 _ _) (list_addW a b vs.toArray ws.toArray n k none none #[] #[] (by simpa [hs.length, hs2.length] using hsz)) ⟨ho, ho2, ?_⟩
  have kp := keeps_push s { cls := .type "list", data := .seq (vs.toArray ++ ws.toArray) }
  refine ⟨kp, .list (n := 0) (vs := vs ++ ws) H.fresh ?_ ((hs.append hs2).keeps kp)⟩
  refine (Heap.get?_push_size _ rfl).trans ?_
  simp [listObj]
theorem foldl_rep {α : Type} (a : Array α) (n : Nat) : (List.replicate n a).foldl (fun x y => x ++ y) #[] = ((List.replicate n a.toList).flatten).toArray := by
  have : ∀ (l : List (Array α)) (acc : Array α), l.foldl (fun x y => x ++ y) acc = acc ++ ((l.map (·.toList)).flatten).toArray := by
    intro l
    induction l with
    | nil => intro acc; simp
    | cons x r ih => intro acc; rw [List.foldl_cons, ih]; apply Array.ext'; simp
  rw [this]
  simp
theorem isAll_rep {X : Addr → Prop} {h : Heap} {vs : List Value} {ds : List D} (i : IsAll X h vs ds) : ∀ n : Nat, IsAll X h ((List.replicate n vs).flatten) ((List.replicate n ds).flatten)
  | 0 => .nil
  | n + 1 => by rw [List.replicate_succ, List.replicate_succ, List.flatten_cons, List.flatten_cons]; exact i.append (isAll_rep i n)
theorem bin_list_mul {l : List D} {x : Int} (hlo : -(2 ^ 63 : Int) ≤ x) (hhi : x < 2 ^ 63) (hsz : l.length * x.toNat ≤ 2 ^ 24) : BinD prog w h₀ C ρ .Mult (.list l) (.int x) (.list ((List.replicate x.toNat l).flatten)) := fun va vb s H ia ib => by
  obtain ⟨a, vs, n, rfl, ha, ho, hs⟩ := ia.list_inv
  obtain ⟨u, rfl⟩ := ib.int_inv
  refine wpAny_binaryOp_repeat_ref (T := "list") (U := "int") (by decide) ⟨_, ho, rfl⟩ (fun s' => typeIs_int s' x u) noFill_list_mul F.fills_int_mul F.slot_int_rmul repeat_list F.slot_int_index.lookup
    (call_meets F.slot_int_rmul (typeIs_int s x u) F.entry_int_rmul (F.args_int_rmul_2 _ _) (int___rmul___int_list x u a vs.toArray n)
      ⟨ho, rfl, ⟨_, ho, rfl⟩, call_meets F.slot_list_mul ⟨_, ho, rfl⟩ F.entry_list_mul (F.args_list_mul_2 _ _)
        (AutoListH.list___mul___list_int_3 a vs.toArray n x u (by simp [Builtin.List.listFitsIndex]; omega) (by rw [List.size_toArray, hs.length]; omega) (by rw [List.size_toArray, hs.length]; simp [Builtin.List.listTooLong, sizeLine]; omega)) ⟨ho, ?_⟩⟩)
  refine ⟨keeps_push s _, .list (n := 0) (vs := (List.replicate x.toNat vs).flatten) H.fresh ((Heap.get?_push_size _ rfl).trans ?_) ((isAll_rep hs _).keeps (keeps_push s _))⟩
  rw [foldl_rep]
  cases vs with
  | nil => simp [listObj]
  | cons v r => simp [listObj]

def repStr (c n : Nat) : Str := ⟨(List.replicate n c).toArray⟩
theorem bin_str_mul {c : Nat} {x : Int} (h0 : 0 ≤ x) (hx : x < 2 ^ 20) : BinD prog w h₀ C ρ .Mult (.str ⟨#[c]⟩) (.int x) (.str (repStr c x.toNat)) := fun va vb s H ia ib => by
  obtain ⟨t, rfl⟩ := ia.str_inv; obtain ⟨u, rfl⟩ := ib.int_inv
  have hok : MulOk ⟨#[c]⟩ x := by
    refine ⟨by simp; omega, fun h _ => ?_, fun _ _ => ?_⟩
    · show ¬ ((1 : Nat) : Int) > (2 ^ 63 - 1) / x
      have : 1 ≤ ((2 : Int) ^ 63 - 1) / x := Int.le_ediv_of_mul_le (by omega) (by omega)
      omega
    · show decide (1 * x.toNat > sizeLine) = false
      have := sizeLine_eq
      simp only [decide_eq_false_iff_not]
      omega
  have e : Txt.mul ⟨#[c]⟩ x = repStr c x.toNat := by
    unfold Txt.mul repStr
    by_cases h1 : x < 1
    · have : x = 0 := by omega
      subst this
      rfl
    · rw [if_neg h1]
      by_cases h2 : x = 1
      · subst h2; rfl
      · have : ((x == 1 || Str.length ⟨#[c]⟩ == 0) = true) = False := by simp [h2, Str.length]
        rw [if_neg (by rw [this]; exact id)]
        show (⟨_⟩ : Str) = ⟨_⟩
        congr 1
        have := foldl_rep #[c] x.toNat
        simp only at this
        rw [show (List.replicate x.toNat #[c]).foldl (fun x1 x2 => x1 ++ x2) #[] = ((List.replicate x.toNat (#[c] : Array Nat).toList).flatten).toArray from this]
        congr 1
        generalize x.toNat = m
        induction m with
        | zero => rfl
        | succ m ih => rw [List.replicate_succ, List.flatten_cons, ih, List.replicate_succ]; rfl
  refine up (SB.mul hok fun t' k => ⟨keeps0_toks s _, ?_⟩)
  rw [e]; exact .str _ _
theorem ev_neg {e : Expr} {pos : Pos} {i : Int} (h : EvD prog w h₀ C ρ e (.int i)) : EvD prog w h₀ C ρ (.UnaryOp .USub e pos) (.int (-i)) := fun s H =>
  wpAny_UnaryOp (h.then H fun v s₁ k₁ H₁ i₁ => by
    obtain ⟨t, rfl⟩ := i₁.int_inv
    exact neg_int ⟨keeps_trans k₁ (keeps_toks _ _), .int _ _⟩)
theorem tr_int {e : Expr} {i : Int} (h : EvD prog w h₀ C ρ e (.int i)) (he : ∀ env whole, isTrue e env whole = (do let v ← whole; standAt e.pos; holding [v] (truthy v)) := by intro _ _; rfl) : TrD prog w h₀ C ρ e (i != 0) :=
  tr_of h (fun v s q Q E hq => by obtain ⟨t, rfl⟩ := q.int_inv; exact truthy_int hq) he
theorem tr_bool {e : Expr} {b : Bool} (h : EvD prog w h₀ C ρ e (.bool b)) (he : ∀ env whole, isTrue e env whole = (do let v ← whole; standAt e.pos; holding [v] (truthy v)) := by intro _ _; rfl) : TrD prog w h₀ C ρ e b :=
  tr_of h (fun v s q Q E hq => by cases q.bool_inv; exact wpAny_truthy_bool hq) he

/-! comparisons -/
theorem cmp_gt_int {a b : Int} : CmpD prog w h₀ C ρ .Gt (.int a) (.int b) (decide (a > b)) := fun va vb s H ia ib => by
  obtain ⟨t, rfl⟩ := ia.int_inv; obtain ⟨u, rfl⟩ := ib.int_inv
  exact gt_int ⟨keeps_refl s, .bool _⟩
theorem cmp_ge_int {a b : Int} : CmpD prog w h₀ C ρ .GtE (.int a) (.int b) (decide (a ≥ b)) := fun va vb s H ia ib => by
  obtain ⟨t, rfl⟩ := ia.int_inv; obtain ⟨u, rfl⟩ := ib.int_inv
  exact ge_int ⟨keeps_refl s, .bool _⟩
theorem cmp_gt_str {a b : Str} : CmpD prog w h₀ C ρ .Gt (.str a) (.str b) (decide (b.cps.toList < a.cps.toList)) := fun va vb s H ia ib => by
  obtain ⟨t, rfl⟩ := ia.str_inv; obtain ⟨u, rfl⟩ := ib.str_inv
  exact P.gt_str ⟨keeps_refl s, .bool _⟩
theorem cmp_is_bool {a b : Bool} : CmpD prog w h₀ C ρ .Is (.bool a) (.bool b) (a == b) := fun va vb s H ia ib => by
  cases ia.bool_inv; cases ib.bool_inv
  refine wpAny_is_plain (by rfl) ⟨keeps_refl s, ?_⟩
  have : ((Value.bool a) == (Value.bool b)) = (a == b) := by cases a <;> cases b <;> rfl
  rw [this]; exact .bool _
def D.ok (d : D) : Bool := d.flat && SeqAt.shaped d.toPy
theorem cmp_eq_data {a b : D} (ha : a.ok = true) (hb : b.ok = true) (hu : C.A.units + 64 < cLine) : CmpD prog w h₀ C ρ .Eq a b (PyData.eqv a.toPy b.toPy) := fun va vb s H ia ib => by
  unfold D.ok at ha hb
  rw [Bool.and_eq_true] at ha hb
  obtain ⟨as, ra⟩ := ia.reads ha.1
  obtain ⟨bs, rb⟩ := ib.reads hb.1
  exact SeqAt.compareEq_shaped ra rb ha.2 hb.2 hu ⟨keeps_refl s, .bool _⟩
theorem cmp_ne_data {a b : D} (ha : a.ok = true) (hb : b.ok = true) (hu : C.A.units + 64 < cLine) : CmpD prog w h₀ C ρ .NotEq a b (!PyData.eqv a.toPy b.toPy) := fun va vb s H ia ib => by
  unfold D.ok at ha hb
  rw [Bool.and_eq_true] at ha hb
  obtain ⟨as, ra⟩ := ia.reads ha.1
  obtain ⟨bs, rb⟩ := ib.reads hb.1
  exact SeqAt.compareNe_shaped ra rb ha.2 hb.2 hu ⟨keeps_refl s, .bool _⟩

/-! built-in functions -/
theorem IsAll.one {X : Addr → Prop} {h : Heap} {vs : List Value} {a : D} (q : IsAll X h vs [a]) : ∃ v, vs = [v] ∧ Is X h v a := by
  cases q with
  | cons x r => cases r; exact ⟨_, rfl, x⟩
theorem bi_len_list {l : List D} (hsz : l.length ≤ 2 ^ 62) : BiD prog w h₀ C ρ (.builtin "len") [.list l] (.int l.length) := fun s vs H i => by
  obtain ⟨v, rfl, i1⟩ := i.one
  obtain ⟨a, vs, n, rfl, ha, ho, hs⟩ := i1.list_inv
  refine len_list (isList_of ho) (by rw [List.size_toArray, hs.length]; omega) ⟨keeps_toks s 2, ?_⟩
  rw [List.size_toArray, hs.length]; exact .int _ _
theorem bi_len_str {x : Str} (hsz : x.length ≤ 2 ^ 62) : BiD prog w h₀ C ρ (.builtin "len") [.str x] (.int x.length) := fun s vs H i => by
  obtain ⟨v, rfl, i1⟩ := i.one
  obtain ⟨t, rfl⟩ := i1.str_inv
  exact PyProof.Rows.len_str (by omega) ⟨keeps_toks s 2, .int _ _⟩
theorem bi_sum {ns : List Int} : BiD prog w h₀ C ρ (.builtin "sum") [.list (ns.map D.int)] (.int ns.sum) := fun s vs H i => by
  obtain ⟨v, rfl, i1⟩ := i.one
  obtain ⟨a, vs, n, rfl, ha, ho, hs⟩ := i1.list_inv
  obtain ⟨hall, hn⟩ := ints_all hs
  obtain ⟨xs, e⟩ := hall.items
  have hl := isList_of ho
  rw [e] at hl
  refine up (sum_intListG H.good.hh hl fun h' tk t' hk => ⟨keeps0_heap hk, ?_⟩)
  have : numsOf vs = xs.toList.map (·.1) := by rw [← nums_intItems, ← e]
  rw [preSum_eq, List.take_of_length_le (by simp), ← this, hn]
  exact .int _ _
theorem bi_min2 {a b : Int} : BiD prog w h₀ C ρ (.builtin "min") [.int a, .int b] (.int (min a b)) := fun s vs H i => by
  obtain ⟨v, u, rfl, ia, ib⟩ := i.two
  obtain ⟨t, rfl⟩ := ia.int_inv; obtain ⟨u, rfl⟩ := ib.int_inv
  refine up (min_two_ints H.good.hh fun h' tk hk => ⟨keeps0_heap hk, ?_⟩)
  split
  · rw [show min a b = b by omega]; exact .int _ _
  · rw [show min a b = a by omega]; exact .int _ _
theorem bi_max2 {a b : Int} : BiD prog w h₀ C ρ (.builtin "max") [.int a, .int b] (.int (max a b)) := fun s vs H i => by
  obtain ⟨v, u, rfl, ia, ib⟩ := i.two
  obtain ⟨t, rfl⟩ := ia.int_inv; obtain ⟨u, rfl⟩ := ib.int_inv
  refine up (max_two_ints H.good.hh fun h' tk hk => ⟨keeps0_heap hk, ?_⟩)
  split
  · rw [show max a b = b by omega]; exact .int _ _
  · rw [show max a b = a by omega]; exact .int _ _
theorem bi_range1 {n : Int} : BiD prog w h₀ C ρ (.type "range") [.int n] (.range 0 n) := fun s vs H i => by
  obtain ⟨v, rfl, i1⟩ := i.one
  obtain ⟨t, rfl⟩ := i1.int_inv
  exact call_range_1 ⟨⟨_, _, rfl, Nat.le_add_right _ 2, fun b o e => Heap.get?_push_of_some _ e⟩, .range (t := s.toks) (u := t) (v := s.toks + 1) H.fresh (Heap.get?_push_size _ rfl)⟩
theorem bi_range2 {a b : Int} : BiD prog w h₀ C ρ (.type "range") [.int a, .int b] (.range a b) := fun s vs H i => by
  obtain ⟨v, u, rfl, ia, ib⟩ := i.two
  obtain ⟨t, rfl⟩ := ia.int_inv; obtain ⟨u, rfl⟩ := ib.int_inv
  exact call_range_2 ⟨⟨_, _, rfl, Nat.le_add_right _ 1, fun b o e => Heap.get?_push_of_some _ e⟩, .range (t := t) (u := u) (v := s.toks) H.fresh (Heap.get?_push_size _ rfl)⟩
theorem bi_chr {i : Int} (h0 : 0 ≤ i) (h1 : i ≤ 1114111) : BiD prog w h₀ C ρ (.builtin "chr") [.int i] (.str ⟨#[i.toNat]⟩) := fun s vs H q => by
  obtain ⟨v, rfl, q1⟩ := q.one
  obtain ⟨t, rfl⟩ := q1.int_inv
  exact P.chr_of_int (by simp; omega) ⟨keeps_toks s 1, .str _ _⟩
theorem iter_range {lo hi : Int} (n : Nat) (hn : hi - lo = n ∨ (hi ≤ lo ∧ n = 0)) (h0 : -(2 ^ 60) ≤ lo) (h1 : lo ≤ 2 ^ 60) (h2 : -(2 ^ 60) ≤ hi) (h3 : hi ≤ 2 ^ 60) : IterD (.range lo hi) (intsFrom lo n) := by
  have hs : Builtin.Range.rangeSize lo hi 1 = n := by rw [rangeSize_one]; split <;> omega
  refine .range n ?_ hs
  unfold Builtin.Range.small
  rw [hs]
  simp [Builtin.Range.rangeFitsLong]
  omega
end
end Mine

set_option Elab.async false
set_option linter.unusedVariables false
set_option linter.unusedSimpArgs false
namespace Mine
open Builtin Builtin.Str

section
variable {prog : Program} {w : World} {h₀ : Heap} {C : Cx} {ρ : Vs}

/-! methods of texts -/
theorem ev_methS {o e : Expr} {rest : List Expr} {name : Str} {apos pos : Pos} {id : String} {x : Str} {ds : List D} {d : D} (hv : EvD prog w h₀ C ρ o (.str x)) (hargs : EvsD prog w h₀ C ρ (e :: rest) ds) (slot : Slot "str" name id)
    (hty : typeOf (.builtin id) = pure (.type "method_descriptor")) (hb : BiD prog w h₀ C ρ (.builtin id) (.str x :: ds) d)
    (hbase : ∀ env, attributeBase o name env (eval o env) = eval o env := by intro _; rfl) (hline : (apos.endLine == pos.line) = true := by rfl)
    (hfew : ∀ env, ((backTo pos (starEach (e :: rest) env)).all (fun x => !x.1) && (backToKw pos (keywordEach [] env)).all (fun x => x.1.isSome) && decide ((e :: rest).length + ([] : List Keyword).length + (if ([] : List Keyword).isEmpty then 0 else 1) < 30)) = true := by intro _; rfl)
    (he : ∀ env, starEach (e :: rest) env = (false, eval e env) :: starEach rest env := by intro _; rfl)
    (hplain : ∀ pos env, (backTo pos (starEach (e :: rest) env)).any (·.1) = false := by intro _ _; rfl) :
    EvD prog w h₀ C ρ (.Call (.Attribute o name apos) (e :: rest) [] pos) d := fun s H => by
  refine wpAny_Call_method (T := "str") (id := id) (hbase _) (hfew _) hline F.plainAttrs_str slot hty (hv.then H fun v s₁ k₁ H₁ i₁ => ?_)
  obtain ⟨t, rfl⟩ := i₁.str_inv
  refine ⟨typeIs_str _ _ _, (fun _ q => nomatch q), Calls.callWith_builtin (hplain _ _) ?_⟩
  have key : wpAny (model prog w) C.A (spliced (backTo pos (starEach (e :: rest) C.env))) (fun vs s₂ => wpAny (model prog w) C.A (call (.builtin id) ([.str x t] ++ vs) []) (fun v s' => Keeps s s' ∧ Is C.X s'.heap v d) no s₂) no s₁ :=
    hargs.then H₁ fun vs s₂ k₂ H₂ i₂ => wpAny_mono (hb s₂ (.str x t :: vs) H₂ (.cons (.str x t) i₂)) (fun v s₃ z => ⟨keeps_trans k₁ (keeps_trans k₂ z.1), z.2⟩) fun _ _ z => z
  rw [he] at key ⊢
  exact Calls.evalArgs_plain key
/-- replacing one written text by another -/
theorem ev_replace {o : Expr} {apos pos py pz : Pos} {ky kz : Nat} {x y z : Str} (hv : EvD prog w h₀ C ρ o (.str x)) (hyz : (y == z) = false) (hsz : x.length + (x.length + 1) * z.length ≤ 16777216)
    (hbase : ∀ env, attributeBase o (Str.ofString "replace") env (eval o env) = eval o env := by intro _; rfl) (hline : (apos.endLine == pos.line) = true := by rfl) :
    EvD prog w h₀ C ρ (.Call (.Attribute o (Str.ofString "replace") apos) [.Constant (.str y) ky py, .Constant (.str z) kz pz] [] pos) (.str (Txt.replace x y z)) := fun s H => by
  refine wpAny_Call_method (T := "str") (id := "str.replace") (hbase _) (by rfl) hline F.plainAttrs_str F.slot_str_replace F.type_str_replace (hv.then H fun v s₁ k₁ H₁ i₁ => ?_)
  obtain ⟨t, rfl⟩ := i₁.str_inv
  refine ⟨typeIs_str _ _ _, (fun _ q => nomatch q), Calls.callWith_builtin (by rfl) ?_⟩
  refine Calls.evalArgs_plain (Calls.spliced_cons (wpAny_Constant_str (k := ky) (pos := py) (Calls.spliced_cons (wpAny_Constant_str (k := kz) (pos := pz) (Calls.spliced_nil ?_)))))
  have h1 := H₁.toks
  have := up (P := fun v s' => Is C.X s'.heap v (.str (Txt.replace x y z))) (s := { s₁ with toks := s₁.toks + 1 + 1 }) (SC.replace (prog := prog) (w := w) (A := C.A) (x := x) (y := y) (z := z) (t := t) (u := s₁.toks) (v := s₁.toks + 1) (Nat.ne_of_gt (Nat.lt_of_lt_of_le Nat.zero_lt_one h1)) (Nat.succ_ne_zero _) (Nat.ne_of_lt (Nat.lt_succ_self _)) hyz hsz fun t' k => ⟨keeps0_toks _ _, .str _ _⟩)
  exact wpAny_mono this (fun v s' q => ⟨keeps_trans k₁ (keeps_trans (keeps_toks s₁ 2) q.1), q.2⟩) fun _ _ q => q

/-! a chain of two comparisons -/
theorem tr_chain2 {a b c : Expr} {o1 o2 : CmpOp} {pos : Pos} {da db dc : D} {p q : Bool} (ha : EvD prog w h₀ C ρ a da) (hb : EvD prog w h₀ C ρ b db) (hc : EvD prog w h₀ C ρ c dc) (h1 : CmpD prog w h₀ C ρ o1 da db p) (h2 : CmpD prog w h₀ C ρ o2 db dc q)
    (hm : ∀ env, isTrue (.Compare a [o1, o2] [b, c] pos) env (eval (.Compare a [o1, o2] [b, c] pos) env) = (do testChain pos (← eval a env) [o1, o2] [eval b env, eval c env]) := by intro _; rfl) :
    TrD prog w h₀ C ρ (.Compare a [o1, o2] [b, c] pos) (p && q) := fun s H => by
  rw [hm]
  refine wpAny_bind (ha.then H fun va s₁ k₁ H₁ i₁ => ?_)
  show wpAny _ _ (do
    let rv ← holding [va] (eval b C.env)
    standAt pos
    let c ← holding [va, rv] (compareOp o1 va rv)
    release [va, rv] [c]
    if ← holding [c, rv] (truthy c) then testChain pos rv [o2] [eval _ C.env] else pure false) _ _ _
  refine wpAny_bind (wpAny_holding (hb.then H₁ fun vb s₂ k₂ H₂ i₂ => wpAny_bind (wpAny_standAt (wpAny_bind (wpAny_holding (wpAny_mono (h1 va vb s₂ H₂ (i₁.keeps k₂) i₂) (fun v s₃ z => ?_) fun _ _ z => z))))))
  obtain ⟨k₃, i₃⟩ := z
  cases i₃.bool_inv
  have H₃ := H₂.keeps k₃
  have k13 := keeps_trans k₁ (keeps_trans k₂ k₃)
  refine wpAny_bind (wpAny_release (wpAny_bind (wpAny_holding (wpAny_truthy_bool ?_))))
  cases p with
  | false => exact wpAny_pure ⟨k13, rfl⟩
  | true =>
    show wpAny _ _ (do
      let rv ← holding [vb] (eval c C.env)
      standAt pos
      let c ← operate [vb, rv] (compareOp o2 vb rv)
      holding [c] (truthy c)) _ _ _
    refine wpAny_bind (wpAny_holding (hc.then H₃ fun vc s₄ k₄ H₄ i₄ => wpAny_bind (wpAny_standAt (wpAny_bind (wpAny_operating (wpAny_mono (h2 vb vc s₄ H₄ ((i₂.keeps k₃).keeps k₄) i₄) (fun v s₅ z => ?_) fun _ _ z => z))))))
    obtain ⟨k₅, i₅⟩ := z
    cases i₅.bool_inv
    exact wpAny_holding (wpAny_truthy_bool ⟨keeps_trans k13 (keeps_trans k₄ k₅), rfl⟩)
end
end Mine

set_option Elab.async false
set_option linter.unusedVariables false
set_option linter.unusedSimpArgs false
namespace Mine

/-! what lies in an object's dict -/
theorem keyName_isStr {k : Value} {x n : Str} (h : keyName k = some x) : k.isStr n = (x == n) := by
  unfold keyName at h
  split at h
  · cases h; rfl
  · cases h
theorem keyName_ref {e : DictEntry} {x : Str} (h : keyName e.key = some x) : e.refKey = false := by
  unfold keyName at h
  split at h
  · rename_i q; unfold DictEntry.refKey; rw [q]
  · cases h
theorem getL_none : ∀ {es : List DictEntry} {ns : List Str} {name : Str}, es.map (fun e => keyName e.key) = ns.map some → name ∉ ns → getL name es = some none
  | es, ns, name, h, hn => by
    have h1 : es.find? (fun e => e.key.isStr name) = none := by
      rw [List.find?_eq_none]
      intro e he q
      have : keyName e.key ∈ ns.map some := by rw [← h]; exact List.mem_map_of_mem he
      obtain ⟨x, hx, ex⟩ := List.mem_map.mp this
      rw [keyName_isStr ex.symm] at q
      exact hn (beq_iff_eq.mp q ▸ hx)
    have h2 : es.any (fun e => e.refKey) = false := by
      rw [List.any_eq_false]
      intro e he q
      have : keyName e.key ∈ ns.map some := by rw [← h]; exact List.mem_map_of_mem he
      obtain ⟨x, hx, ex⟩ := List.mem_map.mp this
      rw [keyName_ref ex.symm] at q; cases q
    unfold getL
    rw [h1]
    simp [h2]
def attrOf (ns : List Str) (vs : List D) (name : Str) : Option D := match ns, vs with
  | n :: ns, v :: vs => if n == name then some v else attrOf ns vs name
  | _, _ => none
theorem getL_some {X : Addr → Prop} {h : Heap} : ∀ {es : List DictEntry} {ns : List Str} {vs : List D} {name : Str} {d : D}, es.map (fun e => keyName e.key) = ns.map some → IsAll X h (es.map (fun e => e.val)) vs → attrOf ns vs name = some d →
    ∃ v, getL name es = some (some v) ∧ Is X h v d
  | [], [], vs, name, d, _, _, q => by cases vs <;> cases q
  | [], n :: ns, vs, name, d, e, _, _ => by cases e
  | e :: es, [], vs, name, d, q, _, _ => by cases q
  | e :: es, n :: ns, [], name, d, _, i, q => by cases i
  | e :: es, n :: ns, v :: vs, name, d, q, i, a => by
    injection q with q1 q2
    cases i with
    | cons i1 i2 =>
      unfold attrOf at a
      split at a
      · rename_i hn
        cases a
        refine ⟨e.val, ?_, i1⟩
        unfold getL
        rw [List.find?_cons, keyName_isStr q1, hn]
      · rename_i hn
        obtain ⟨v', a1, a2⟩ := getL_some q2 i2 a
        refine ⟨v', ?_, a2⟩
        unfold getL at a1 ⊢
        rw [List.find?_cons, keyName_isStr q1]
        rw [Bool.not_eq_true] at hn
        rw [hn]
        split at a1
        · rename_i z; cases a1; rw [z]
        · rename_i z
          split at a1
          · cases a1
          · cases a1
theorem handed_is {X : Addr → Prop} {h : Heap} {v : Value} {d : D} (i : Is X h v d) (hd : ∀ u, d ≠ .raw u) : handedIn v = true := by
  cases i <;> first | rfl | (exact absurd rfl (hd _))

/-- the class's plain ways -/
structure ClsOk (K : Frag) (c : Addr) : Prop where
  ga : findIn K (.ref c) "__getattribute__" = some (some (.builtin "object.__getattribute__"))
  gat : findIn K (.ref c) "__getattr__" = some none
  sa : findIn K (.ref c) "__setattr__" = some (some (.builtin "object.__setattr__"))
  hh : hasDictIn K c = true
  po : plainOver K c = true

section
variable {prog : Program} {w : World} {h₀ : Heap} {C : Cx} {ρ : Vs} {K : Frag} {c : Addr}

theorem instAt {X : Addr → Prop} {h : Heap} {a dx c : Addr} {es : List DictEntry} {n : Nat} (h1 : h.get? a = some (instO c dx)) (h2 : h.get? dx = some (dictO es n)) : InstAt h a (instO c dx) c (some (dictOf es n)) := ⟨h1, rfl, rfl, h2⟩

theorem ev_attr {e : Expr} {name : Str} {pos : Pos} {ns : List Str} {vs : List D} {d : D} (KX : K.In h₀) (ok : ClsOk K c) (he : EvD prog w h₀ C ρ e (.obj c ns vs)) (ha : attrOf ns vs name = some d) (hf : findIn K (.ref c) name = some none) (hd : ∀ u, d ≠ .raw u)
    (hx : ∀ env, eval (.Attribute e name pos) env = (do
      let o ← eval e env
      standAt pos.atName
      let r ← holding [o] (getAttr o name true)
      letTemporaryGo e o r
      pure r) := by intro _; with_unfolding_all rfl) : EvD prog w h₀ C ρ (.Attribute e name pos) d := fun s H => by
  refine Attribute_any_ (he.then H fun v s₁ k₁ H₁ i₁ => ?_) (hx _)
  cases i₁ with
  | obj a1 a2 a3 a4 a5 a6 =>
    obtain ⟨v, b1, b2⟩ := getL_some a5 a6 ha
    refine get_value (KX.keeps H₁.top) (instAt (X := C.X) a3 a4) ok.ga (findObj_own ok.hh hf rfl (by rw [lookIn_dict]; exact b1)) (handed_is b2 hd) ?_
    exact ⟨keeps_trans k₁ (keeps_toks s₁ 1), b2⟩

theorem ev_cattr {e : Expr} {name : Str} {pos : Pos} {mc : Value} {v : Value} {d : D} (KX : K.In h₀) (he : EvV prog w h₀ C ρ e (.ref c)) (hr : readsIn K c mc = true) (hf : findCls K (.ref c) mc name = some (.val v)) (hv : handedIn v = true) (hi : ∀ X h, Is X h v d)
    (hx : ∀ env, eval (.Attribute e name pos) env = (do
      let o ← eval e env
      standAt pos.atName
      let r ← holding [o] (getAttr o name true)
      letTemporaryGo e o r
      pure r) := by intro _; with_unfolding_all rfl) : EvD prog w h₀ C ρ (.Attribute e name pos) d := fun s H =>
  Attribute_any_ (he.then H fun s₁ k₁ H₁ => cls_value (KX.keeps H₁.top) hr hf hv ⟨keeps_trans k₁ (keeps_toks s₁ 1), hi _ _⟩) (hx _)
end
end Mine

set_option Elab.async false
set_option linter.unusedVariables false
set_option linter.unusedSimpArgs false
namespace Mine

/-- all that lies between two addresses, but L -/
def allBut (h : Heap) (L : Addr) (lo n : Nat) : List (Addr × Obj) := (List.range' lo n).filterMap fun a => if a = L then none else (h.get? a).map fun o => (a, o)
theorem allBut_mem {h : Heap} {L : Addr} {lo n : Nat} {a : Addr} {o : Obj} (h1 : @LE.le Nat _ lo a) (h2 : @LT.lt Nat _ a (lo + n)) (ha : a ≠ L) (e : h.get? a = some o) : (a, o) ∈ allBut h L lo n := by
  refine List.mem_filterMap.mpr ⟨a, List.mem_range'_1.mpr ⟨h1, h2⟩, ?_⟩
  rw [if_neg ha, e]; rfl
theorem allBut_spec {h : Heap} {L : Addr} {lo n : Nat} {p : Addr × Obj} (hp : p ∈ allBut h L lo n) : h.get? p.1 = some p.2 ∧ p.1 ≠ L ∧ @LE.le Nat _ lo p.1 ∧ @LT.lt Nat _ p.1 (lo + n) := by
  obtain ⟨a, ha, e⟩ := List.mem_filterMap.mp hp
  have hr := List.mem_range'_1.mp ha
  by_cases q : a = L
  · rw [if_pos q] at e; cases e
  · rw [if_neg q] at e
    obtain ⟨o, ho, rfl⟩ := Option.map_eq_some_iff.mp e
    exact ⟨ho, q, hr.1, hr.2⟩

theorem putL_new {name : Str} {hs : Int} {k v : Value} : ∀ (es : List DictEntry), (∀ e ∈ es, e.key.isStr name = false) → putL name hs k v es = es ++ [⟨hs, k, v⟩]
  | [], _ => rfl
  | e :: r, hf => by
    unfold putL
    rw [hf e (.head _), if_neg Bool.false_ne_true, putL_new r (fun e he => hf e (.tail _ he))]
    rfl

section
variable {prog : Program} {w : World} {h₀ : Heap} {C : Cx} {ρ : Vs} {K : Frag} {c : Addr}

theorem set_all {A : Around} {E : Value → Shared → Prop} {s : Shared} {x dx L : Addr} {es : List DictEntry} {n : Nat} {m : Str → Option Value} {name : Str} {v : Value} {Q : Unit → Shared → Prop} (X : K.In s.heap) (ok : ClsOk K c)
    (hx : s.heap.get? x = some (instO c dx)) (hd : s.heap.get? dx = some (dictO es n)) (hL : s.heap.Ns L m) (hdL : dx ≠ L) (ht : takerIn K c name = some none) (hl : getL name es = some none) (hz : es.length < 1000)
    (q : ∀ h' k n', h'.Ns L m → (∀ b o, b ≠ L → b ≠ dx → s.heap.get? b = some o → h'.get? b = some o) → h'.get? dx = some (dictO (es ++ [⟨PyData.keyHash w.params name, .str name k, v⟩]) n') → Q () { s with heap := h', toks := s.toks + 2 }) :
    wpAny (model prog w) A (setAttr (.ref x) name v) Q E s := by
  have I := instAt (X := fun _ => False) hx hd
  have hlt := Heap.lt_size hd
  have hput : putL name (PyData.keyHash w.params name) (.str name (s.toks + 1)) v es = es ++ [⟨PyData.keyHash w.params name, .str name (s.toks + 1), v⟩] := by
    have hf : ∀ e ∈ es, e.key.isStr name = false := by
      intro e he
      unfold getL at hl
      split at hl
      · cases hl
      · rename_i z
        have := List.find?_eq_none.mp z e he
        simpa using this
    exact putL_new es hf
  refine set_plain X I ok.sa (osa_dict (h₀ := ⟨#[], {}⟩) (L := L) (m := m) (s := { s with toks := s.toks + 1 }) (pre := allBut s.heap L 0 dx) (post := allBut s.heap L (dx + 1) s.heap.objs.size) (od := dictOf es n)
    (es := putL name (PyData.keyHash w.params name) (.str name (s.toks + 1)) v es) (n := putN name es n) ⟨hL, fun b o e => ?_, Nat.zero_le _⟩ ?_ X I rfl ok.po ht ok.hh (by rw [lookIn_dict, hl]; rfl) ?_ ?_ (putName_dict _ _ _ _ _ _) rfl (by rw [hput]; simp; omega) fun h' F' N' => ?_)
  · simp [Heap.get?] at e
  · intro p hp
    refine ⟨?_, ?_, by simp [Heap.get?]⟩
    · rcases List.mem_append.mp hp with hp | hp
      · exact (allBut_spec hp).1
      · rcases List.mem_cons.mp hp with rfl | hp
        · exact hd
        · exact (allBut_spec hp).1
    · rcases List.mem_append.mp hp with hp | hp
      · exact (allBut_spec hp).2.1
      · rcases List.mem_cons.mp hp with rfl | hp
        · exact hdL
        · exact (allBut_spec hp).2.1
  · intro p hp
    have := (allBut_spec hp).2.2.2
    rw [Nat.zero_add] at this
    exact Nat.ne_of_lt this
  · intro p hp
    exact Nat.ne_of_gt (allBut_spec hp).2.2.1
  · rw [hput] at N'
    refine q h' (s.toks + 1) _ F'.ns (fun b o h1 h2 e => ?_) (N' (dx, _) (List.mem_append_right _ (.head _))).1
    have hb := Heap.lt_size e
    rcases Nat.lt_or_gt_of_ne h2 with z | z
    · exact (N' (b, o) (List.mem_append_left _ (allBut_mem (Nat.zero_le _) (by rw [Nat.zero_add]; exact z) h1 e))).1
    · exact (N' (b, o) (List.mem_append_right _ (.tail _ (allBut_mem z (Nat.lt_of_lt_of_le hb (Nat.le_add_left _ _)) h1 e)))).1

/-- the object that is being made -/
structure InstS (C : Cx) (c x dx : Addr) (ns : List Str) (vs : List D) (s : Shared) : Prop where
  at_ : s.heap.get? x = some (instO c dx)
  dict : ∃ es n, s.heap.get? dx = some (dictO es n) ∧ es.map (fun e => keyName e.key) = ns.map some ∧ IsAll C.X s.heap (es.map (fun e => e.val)) vs
structure Owns (h₀ : Heap) (C : Cx) (x dx : Addr) : Prop where
  nd : h₀.get? dx = none
  rx : C.X x
  rd : C.X dx
  wx : ¬ C.W x
  wd : ¬ C.W dx
  ne : x ≠ dx
theorem InstS.keepsW {x dx : Addr} {ns : List Str} {vs : List D} {s s' : Shared} (g : Good h₀ C) (o : Owns h₀ C x dx) (i : InstS C c x dx ns vs s) (k : KeepsW C.W s s') : InstS C c x dx ns vs s' := by
  obtain ⟨a, es, n, b, d, e⟩ := i
  exact ⟨keepsW_get k o.wx a, es, n, keepsW_get k o.wd b, d, e.keepsW k g.sub⟩
theorem InstS.keeps {x dx : Addr} {ns : List Str} {vs : List D} {s s' : Shared} (i : InstS C c x dx ns vs s) (k : Keeps s s') : InstS C c x dx ns vs s' := by
  obtain ⟨a, es, n, b, d, e⟩ := i
  exact ⟨keeps_get k a, es, n, keeps_get k b, d, e.keeps k⟩

theorem st_attr {s : Shared} {E : Value → Shared → Prop} {x dx : Addr} {ns : List Str} {vs : List D} {self name : Str} {p ap pos : Pos} {e : Expr} {d : D} {Q : Flow → Shared → Prop} (H : Sat h₀ C ρ s) (KX : K.In h₀) (ok : ClsOk K c) (o : Owns h₀ C x dx) (i : InstS C c x dx ns vs s)
    (hself : EvV prog w h₀ C ρ (.Name self p) (.ref x)) (he : EvD prog w h₀ C ρ e d) (hn : name ∉ ns) (ht : takerIn K c name = some none) (hz : ns.length < 1000)
    (q : ∀ s', Sat h₀ C ρ s' → KeepsW (fun a => a = dx ∨ C.W a) s s' → InstS C c x dx (ns ++ [name]) (vs ++ [d]) s' → Q .next s')
    (hs : swapsWith e (some (.Attribute (.Name self p) name ap)) pos.line C.env = pure false := by rfl) :
    wpAny (model prog w) C.A (exec (.Assign [.Attribute (.Name self p) name ap] e pos) C.env) Q E s := by
  refine plainObj_wpAny_Assign_Attribute (he.then H fun v s₁ k₁ H₁ i₁ => hself.then H₁ fun s₂ k₂ H₂ => ?_) hs
  have i₂ := i₁.keeps k₂
  have i' := i.keeps (keeps_trans k₁ k₂)
  obtain ⟨a1, es, n, a2, a3, a4⟩ := i'
  obtain ⟨m, hm⟩ := H₂.loc
  have hL := H₂.good.wloc
  have hdL : dx ≠ C.env.locals := fun z => o.wd (z ▸ hL)
  have hxL : x ≠ C.env.locals := fun z => o.wx (z ▸ hL)
  refine set_all (KX.keeps H₂.top) ok a1 a2 hm hdL ht (getL_none a3 hn) ?_ fun h' k n' hm' hk hdx => ?_
  · have := congrArg List.length a3
    rw [List.length_map, List.length_map] at this
    omega
  have mono : ∀ {v : Value} {d : D}, Is C.X s₂.heap v d → Is C.X h' v d := fun j => j.mono fun b ob nb eb => ⟨nb, hk b ob (fun z => nb (H₂.good.sub _ (z ▸ hL))) (fun z => nb (z ▸ o.rd)) eb⟩
  have monoA : ∀ {v : List Value} {d : List D}, IsAll C.X s₂.heap v d → IsAll C.X h' v d := fun j => j.mono fun b ob nb eb => ⟨nb, hk b ob (fun z => nb (H₂.good.sub _ (z ▸ hL))) (fun z => nb (z ▸ o.rd)) eb⟩
  have KW : KeepsW (fun a => a = dx ∨ C.W a) s₂ { s₂ with heap := h', toks := s₂.toks + 2 } := ⟨h', _, rfl, Nat.le_add_right _ _, fun b ob nb eb => hk b ob (fun z => nb (.inr (z ▸ hL))) (fun z => nb (.inl z)) eb⟩
  have top' : ∀ b ob, h₀.get? b = some ob → h'.get? b = some ob := fun b ob e0 => by
    refine hk b ob (fun z => ?_) (fun z => ?_) (H₂.top b ob e0)
    · rw [z, H₂.good.wnew _ hL] at e0; cases e0
    · rw [z, o.nd] at e0; cases e0
  have cell' : ∀ {cc : Addr} {v : Option Value}, s₂.heap.IsCell cc v → h'.IsCell cc v := fun {cc v} z => by
    obtain ⟨ob, e1, e2⟩ := z
    refine ⟨ob, hk cc ob (fun z => ?_) (fun z => ?_) e1, e2⟩
    · obtain ⟨o1, _, _, e3, e4, _⟩ := hm
      rw [z, e3] at e1; cases e1
      rw [e4] at e2; cases v <;> simp at e2
    · rw [z, a2] at e1; cases e1
      cases v <;> simp [dictO] at e2
  refine q _ ⟨H₂.good, H₂.gens, Nat.le_trans H₂.toks (Nat.le_add_right _ _), top', fun a xa => ?_, ⟨m, hm'⟩, fun y cc e0 => ?_, fun pr hpr => ?_⟩ (keepsW_trans (keepsW_of (keeps_trans k₁ k₂)) KW) ⟨hk x _ hxL o.ne a1, _, n', hdx, ?_, ?_⟩
  · obtain ⟨ob, eb⟩ := H₂.alloc a xa
    by_cases z1 : a = C.env.locals
    · obtain ⟨o1, _, _, e1, _⟩ := hm'; exact ⟨o1, z1 ▸ e1⟩
    · by_cases z2 : a = dx
      · exact ⟨_, z2 ▸ hdx⟩
      · exact ⟨ob, hk a ob z1 z2 eb⟩
  · obtain ⟨v, e1⟩ := H₂.cells y cc e0
    exact ⟨v, cell' e1⟩
  · obtain ⟨v, j, hv⟩ := H₂.vars pr hpr
    refine ⟨v, mono j, ?_⟩
    rcases hv with ⟨b1, m1, b2, b3⟩ | ⟨b1, cc, b2, b3⟩
    · exact .inl ⟨b1, m, hm', by rw [hm.eq_nsMap, ← b2.eq_nsMap]; exact b3⟩
    · exact .inr ⟨b1, cc, b2, cell' b3⟩
  · rw [List.map_append, List.map_append, a3]; rfl
  · rw [List.map_append]
    exact (monoA a4).append (.cons (mono i₂) .nil)
end
end Mine

set_option Elab.async false
set_option linter.unusedVariables false
set_option linter.unusedSimpArgs false
namespace Mine
section
variable {prog : Program} {w : World} {h₀ : Heap} {C : Cx} {ρ : Vs} {K : Frag} {c : Addr}

theorem ex_assign3 {x y z : Str} {px py pz pos : Pos} {e : Expr} {d : D} (h : EvD prog w h₀ C ρ e d) (hx : Stores C x) (hy : Stores C y) (hz : Stores C z)
    (he : ∀ env, (assignEach [.Name x px, .Name y py, .Name z pz] env).map (·.2) = [assign (.Name x px) env, assign (.Name y py) env, assign (.Name z pz) env] := by intro _; rfl)
    (hw : swappedStores [.Name x px, .Name y py, .Name z pz] e C.env = pure none := by rfl) :
    ExD prog w h₀ C ρ (.Assign [.Name x px, .Name y py, .Name z pz] e pos) (.next (put (put (put ρ x d) y d) z d)) := fun s H => by
  refine wpAny_Assign_three (h.then H fun v s₁ k₁ H₁ i₁ => ?_) (he _) hw
  refine wpAny_mono (asg_name hx v s₁ H₁ i₁) (fun _ s₂ z => ?_) fun _ _ z => z.elim
  have i₂ := i₁.keepsW z.1 H.good.sub
  refine wpAny_mono (asg_name hy v s₂ z.2 i₂) (fun _ s₃ z' => ?_) fun _ _ z => z.elim
  have i₃ := i₂.keepsW z'.1 H.good.sub
  refine wpAny_mono (asg_name hz v s₃ z'.2 i₃) (fun _ s₄ z'' => ?_) fun _ _ z => z
  exact ⟨keepsW_trans (keepsW_of k₁) (keepsW_trans z.1 (keepsW_trans z'.1 z''.1)), rfl, z''.2⟩

/-- a call of a class or a function that stands in K -/
theorem ev_callK {id : Str} {p pos : Pos} {e : Expr} {rest : List Expr} {f : Addr} {n : Nat} {ds : List D} {d : D} (KX : K.In h₀) (hf : EvV prog w h₀ C ρ (.Name id p) (.ref f)) (hk : keepIn K (.ref f) = true)
    (hargs : EvsD prog w h₀ C ρ (e :: rest) ds) (hfn : FnD prog w h₀ f n ds d) (hr : Room C.A n) (he : ∀ env, starEach (e :: rest) env = (false, eval e env) :: starEach rest env := by intro _; rfl)
    (hplain : ∀ pos env, (backTo pos (starEach rest env)).any (·.1) = false := by intro _ _; rfl) :
    EvD prog w h₀ C ρ (.Call (.Name id p) (e :: rest) [] pos) d := fun s H => by
  refine wpAny_Call_Name_kw (hf.then H fun s₁ k₁ H₁ => ?_)
  refine callWith_K KX hk (hargs.then H₁ fun vs s₂ k₂ H₂ i₂ => ⟨KX.keeps H₂.top, ?_⟩) (he _) (hplain _ _)
  exact wpAny_mono (hfn C.A C.X s₂ vs hr H₂.gens H₂.toks H₂.top H₂.alloc i₂) (fun v s₃ z => ⟨keeps_trans k₁ (keeps_trans k₂ z.1), z.2⟩) fun _ _ z => z

/-- a method's call -/
theorem ev_meth {o e : Expr} {rest : List Expr} {name : Str} {apos pos : Pos} {ns : List Str} {vs ds : List D} {d : D} {f : Addr} {n : Nat} (KX : K.In h₀) (ok : ClsOk K c) (ho : EvD prog w h₀ C ρ o (.obj c ns vs)) (hargs : EvsD prog w h₀ C ρ (e :: rest) ds)
    (hf : findIn K (.ref c) name = some (some (.ref f))) (ht : typeIn K (.ref f) = some (.type "function")) (hk : keepIn K (.ref f) = true) (hn : name ∉ ns) (hfn : FnD prog w h₀ f n (.obj c ns vs :: ds) d) (hr : Room C.A n)
    (he : ∀ env, starEach (e :: rest) env = (false, eval e env) :: starEach rest env := by intro _; rfl)
    (hplain : ∀ pos env, (backTo pos (starEach rest env)).any (·.1) = false := by intro _ _; rfl)
    (hx : ∀ env, ∃ pl, eval (.Call (.Attribute o name apos) (e :: rest) [] pos) env = (do
      let ov ← eval o env
      standAt apos.atName
      let (f, first) ← holding [ov] (getMethod ov name pl)
      callWith pos f first (backTo pos (starEach (e :: rest) env)) (backToKw pos (keywordEach [] env))) := by intro _; exact ⟨_, rfl⟩) :
    EvD prog w h₀ C ρ (.Call (.Attribute o name apos) (e :: rest) [] pos) d := fun s H => by
  obtain ⟨pl, hx⟩ := hx C.env
  refine methodCall_KW (pl := pl) (ho.then H fun v s₁ k₁ H₁ i₁ => ?_) hx
  have i₁' := i₁
  cases i₁ with
  | obj a1 a2 a3 a4 a5 a6 =>
    refine method_fn (KX.keeps H₁.top) (instAt (X := C.X) a3 a4) ok.ga ok.gat hf ht ?_ ?_
    · show (lookIn name (dictOf _ _)).map _ = _
      rw [lookIn_dict, getL_none a5 hn]; rfl
    · refine callWith_K KX hk (hargs.then H₁ fun vs s₂ k₂ H₂ i₂ => ⟨KX.keeps H₂.top, ?_⟩) (he _) (hplain _ _)
      exact wpAny_mono (hfn C.A C.X s₂ _ hr H₂.gens H₂.toks H₂.top H₂.alloc (.cons (i₁'.keeps k₂) i₂)) (fun v s₃ z => ⟨keeps_trans k₁ (keeps_trans k₂ z.1), z.2⟩) fun _ _ z => z
theorem ev_meth0 {o : Expr} {name : Str} {apos pos : Pos} {ns : List Str} {vs : List D} {d : D} {f : Addr} {n : Nat} (KX : K.In h₀) (ok : ClsOk K c) (ho : EvD prog w h₀ C ρ o (.obj c ns vs))
    (hf : findIn K (.ref c) name = some (some (.ref f))) (ht : typeIn K (.ref f) = some (.type "function")) (hk : keepIn K (.ref f) = true) (hn : name ∉ ns) (hfn : FnD prog w h₀ f n [.obj c ns vs] d) (hr : Room C.A n)
    (hx : ∀ env, ∃ pl, eval (.Call (.Attribute o name apos) [] [] pos) env = (do
      let ov ← eval o env
      standAt apos.atName
      let (f, first) ← holding [ov] (getMethod ov name pl)
      callWith pos f first (backTo pos (starEach [] env)) (backToKw pos (keywordEach [] env))) := by intro _; exact ⟨_, rfl⟩) :
    EvD prog w h₀ C ρ (.Call (.Attribute o name apos) [] [] pos) d := fun s H => by
  obtain ⟨pl, hx⟩ := hx C.env
  refine methodCall_KW (pl := pl) (ho.then H fun v s₁ k₁ H₁ i₁ => ?_) hx
  have i₁' := i₁
  cases i₁ with
  | obj a1 a2 a3 a4 a5 a6 =>
    refine method_fn (KX.keeps H₁.top) (instAt (X := C.X) a3 a4) ok.ga ok.gat hf ht ?_ ?_
    · show (lookIn name (dictOf _ _)).map _ = _
      rw [lookIn_dict, getL_none a5 hn]; rfl
    · refine callWith_K0 (KX.keeps H₁.top) hk ?_
      exact wpAny_mono (hfn C.A C.X s₁ _ hr H₁.gens H₁.toks H₁.top H₁.alloc (.cons i₁' .nil)) (fun v s₃ z => ⟨keeps_trans k₁ z.1, z.2⟩) fun _ _ z => z

/-- an attribute of the object that is being made -/
theorem at_attr {s : Shared} {x dx : Addr} {ns : List Str} {vs : List D} {e : Expr} {name : Str} {pos : Pos} {d : D} (H : Sat h₀ C ρ s) (KX : K.In h₀) (ok : ClsOk K c) (i : InstS C c x dx ns vs s) (he : EvV prog w h₀ C ρ e (.ref x)) (ha : attrOf ns vs name = some d) (hf : findIn K (.ref c) name = some none) (hd : ∀ u, d ≠ .raw u)
    (hx : ∀ env, eval (.Attribute e name pos) env = (do
      let o ← eval e env
      standAt pos.atName
      let r ← holding [o] (getAttr o name true)
      letTemporaryGo e o r
      pure r) := by intro _; with_unfolding_all rfl) : wpAny (model prog w) C.A (eval (.Attribute e name pos) C.env) (fun v s' => Keeps s s' ∧ Is C.X s'.heap v d) no s := by
  refine Attribute_any_ (he.then H fun s₁ k₁ H₁ => ?_) (hx _)
  obtain ⟨a1, es, n, a2, a3, a4⟩ := i.keeps k₁
  obtain ⟨v, b1, b2⟩ := getL_some a3 a4 ha
  refine get_value (KX.keeps H₁.top) (instAt (X := C.X) a1 a2) ok.ga (findObj_own ok.hh hf rfl (by rw [lookIn_dict]; exact b1)) (handed_is b2 hd) ?_
  exact ⟨keeps_trans k₁ (keeps_toks s₁ 1), b2⟩

theorem ev_rawName {x : Str} {pos : Pos} {v : Value} (h : EvD prog w h₀ C ρ (.Name x pos) (.raw v)) : EvV prog w h₀ C ρ (.Name x pos) v := fun s H =>
  wpAny_mono (h s H) (fun u s' z => ⟨z.1, by cases z.2; rfl⟩) fun _ _ z => z

/-- a call of the class -/
theorem new_intro {fI : Addr} {ob : Obj} {fd : FuncData} {body : List Stmt} {xs : List Str} {n : Nat} {ds : List D} {ns : List Str} {vs' : List D} (KX : K.In h₀) (hm : makesIn K c = true) (hi : findIn K (.ref c) "__init__" = some (some (.ref fI))) (hfn : typeIn K (.ref fI) = some (.type "function"))
    (ho : h₀.get? fI = some ob) (hdata : ob.data = .func fd) (hcd : h₀.CodeRec fd.code fd.qualname) (hlim : h₀.NoLimit)
    (hbody : fd.body = .stmts body) (hclo : fd.closure = []) (hglob : fd.globals = mainGlobals) (hbi : fd.builtins = builtinsNs) (hlen : xs.length = ds.length + 1) (hbind : ∀ vs : List Value, vs.length = xs.length → bindArgs fd ⟨vs, []⟩ = pure (xs.zip vs)) (hok : fnOk fd.scope xs = true)
    (h : ∀ C s₁ x dx, InFn C fd.scope n → Owns h₀ C x dx → Sat h₀ C (xs.zip (.raw (.ref x) :: ds)) s₁ → InstS C c x dx [] [] s₁ →
      wpAny (model prog w) C.A (execs body C.env) (fun f s' => f = .next ∧ KeepsW (fun a => a = dx ∨ C.W a) s₁ s' ∧ InstS C c x dx ns vs' s') no s₁) : FnD prog w h₀ c (n + 2) ds (.obj c ns vs') := fun A X s vs R gens htok top alloc i => by
  obtain ⟨hp, g, dr, tk, os⟩ := s
  have KX' : K.In hp := KX.keeps top
  refine wpAny_call (make_core (makes_of KX' hm) (looks_findIn KX' hi) (fun self => bind_fn KX' self hfn) (.inl rfl) ?_)
  generalize hA : A.under (.builtin "type.__call__" ⟨.ref c :: vs, []⟩) = A'
  have a1 : A'.handled = A.handled := by rw [← hA]; rfl
  have a2 : A'.depth = A.depth + 1 := by rw [← hA]; rfl
  have a3 : A'.units ≤ A.units + 4 := by
    have : (Code.builtin "type.__call__" ⟨.ref c :: vs, []⟩).cUnits ≤ 4 := by
      have e : (Code.builtin "type.__call__" ⟨.ref c :: vs, []⟩).frames = 0 := rfl
      show 1 + 3 * _ ≤ 4
      omega
    rw [← hA]; exact Nat.add_le_add_left this _
  let dx := hp.objs.size
  let x := hp.objs.size + 1
  have hk2 : ∀ b o, hp.get? b = some o → ((hp.push emptyDict).push (instObj c hp.objs.size)).get? b = some o := fun b o e => Heap.get?_push_of_some _ (Heap.get?_push_of_some _ e)
  have gdx : ((hp.push emptyDict).push (instObj c hp.objs.size)).get? dx = some (dictO [] 0) := Heap.get?_push_of_some _ (Heap.get?_push_size hp (o := emptyDict) rfl)
  have gx : ((hp.push emptyDict).push (instObj c hp.objs.size)).get? x = some (instO c dx) := by
    have := Heap.get?_push_size (hp.push emptyDict) (o := instObj c hp.objs.size) rfl
    rw [Heap.size_push] at this
    exact this
  have ndx : hp.get? dx = none := get_none_of_le (Nat.le_refl _)
  have nx : hp.get? x = none := get_none_of_le (Nat.le_succ _)
  refine codeAny_mono (fn_code (n := n) (X := fun a => X a ∨ a = x ∨ a = dx) (ds := .raw (.ref x) :: ds) (A := A') (R₀ := fun r s' => ∃ v, r = .ok (.ret v) ∧ v = .none ∧ Keeps ⟨hp, g, dr, tk, os⟩ s' ∧ Is X s'.heap (.ref x) (.obj c ns vs')) ho hdata hcd hlim hbody hclo hglob hbi hlen hbind hok ⟨a1.trans R.hh, by have := R.depth; omega, by have := R.units; omega⟩ gens (.inl htok) (fun b o e => hk2 b o (top b o e)) ?_ ?_ ?_) ?_
  · rintro a (q | rfl | rfl)
    · obtain ⟨o, e⟩ := alloc a q; exact ⟨o, hk2 _ _ e⟩
    · exact ⟨_, gx⟩
    · exact ⟨_, gdx⟩
  · refine .cons (.raw _) (i.mono fun b o nb e => ⟨?_, hk2 _ _ e⟩)
    have e : hp.get? b = some o := e
    rintro (q | rfl | rfl)
    · exact nb q
    · rw [nx] at e; cases e
    · rw [ndx] at e; cases e
  · intro C s₁ I S k₁ wge hX
    have hwx : ¬ C.W x := fun q => by have := wge x q; rw [show (_ : Option Obj) = _ from this] at gx; cases gx
    have hwd : ¬ C.W dx := fun q => by have := wge dx q; rw [show (_ : Option Obj) = _ from this] at gdx; cases gdx
    have hnd : h₀.get? dx = none := by
      cases e : h₀.get? dx with
      | none => rfl
      | some o => have := top dx o e; rw [show hp.get? dx = _ from this] at ndx; cases ndx
    refine wpAny_mono (h C s₁ x dx I ⟨hnd, (hX x).mpr (.inl (.inr (.inl rfl))), (hX dx).mpr (.inl (.inr (.inr rfl))), hwx, hwd, Nat.succ_ne_self _⟩ S ⟨keeps_get k₁ gx, [], 0, keeps_get k₁ gdx, rfl, .nil⟩) (fun f s' z => ?_) fun _ _ z => z
    obtain ⟨rfl, k₂, b1, es, m, b2, b3, b4⟩ := z
    refine ⟨_, rfl, rfl, ?_, ?_⟩
    · obtain ⟨h1, t1, rfl, l1, e1⟩ := k₁
      obtain ⟨h2, t2, rfl, l2, e2⟩ := k₂
      refine ⟨h2, t2, rfl, Nat.le_trans l1 l2, fun b o e => e2 b o ?_ (e1 b o (hk2 b o e))⟩
      have e : hp.get? b = some o := e
      rintro (rfl | q)
      · rw [ndx] at e; cases e
      · have := wge b q
        have e3 := hk2 b o e
        rw [show (_ : Option Obj) = _ from this] at e3; cases e3
    · refine .obj (fun q => ?_) (fun q => ?_) b1 b2 b3 (b4.less fun a q => (hX a).mpr (.inl (.inl q)))
      · obtain ⟨o, e⟩ := alloc x q; rw [show hp.get? x = _ from e] at nx; cases nx
      · obtain ⟨o, e⟩ := alloc dx q; rw [show hp.get? dx = _ from e] at ndx; cases ndx
  · rintro r s' ⟨v, rfl, rfl, k, z⟩
    exact ⟨rfl, k, z⟩

theorem bi_tuple {ds : List D} (hsz : ds.length ≤ 10000) : BiD prog w h₀ C ρ (.type "tuple") [.list ds] (.tup ds) := fun s vs H i => by
  cases i with
  | cons i r =>
    cases r
    cases i with
    | list ha ho hs =>
      rename_i a us n
      refine call_tuple_list (isList_of ho) (fun h' hk => ?_) (by rw [List.size_toArray, hs.length, sizeLine_eq]; omega)
      have hle : ∀ b o, s.heap.get? b = some o → (h'.push { cls := .type "tuple", data := .seq us.toArray }).get? b = some o := fun b o e => Heap.get?_push_of_some _ (hk b o e)
      refine ⟨keeps_heap hle, .tup ?_ (n := 0) (Heap.get?_push_size _ rfl) (hs.keeps (keeps_heap hle))⟩
      intro q
      obtain ⟨o, e⟩ := H.alloc _ q
      exact Nat.lt_irrefl _ (Heap.lt_size (hk _ _ e))
end
end Mine

set_option Elab.async false
set_option linter.unusedVariables false
set_option linter.unusedSimpArgs false
namespace Mine
open AutoSeq1 (wpAny_loadPart')

theorem tuple_lt_pair (l b : Addr) (p q p' q' : Int) (t u t' u' : Tok) (n n2 : Nat) :
    Meets (Builtin.«tuple.__lt__» ⟨[.ref l, .ref b], []⟩)
      (fun A R s => s.heap.get? l = some { cls := .type "tuple", data := .seq #[.int p t, .int q u] n } ∧ s.heap.get? b = some { cls := .type "tuple", data := .seq #[.int p' t', .int q' u'] n2 } ∧
        R (.ok (.ret (.bool (decide (p < p' ∨ (p = p' ∧ q < q')))))) s) :=
  .of_wp fun prog w A R s h => by
    obtain ⟨hp, g, d, tk, os⟩ := s; obtain ⟨hl, hb, h⟩ := h
    have f2 := AutoSeq1.sub_tuple_tuple
    wp_walk using wpAny_loadPart' hl, wpAny_loadPart' hb, wpAny_forIn_list _ (fun rest b s' => b.1 = none ∧ s' = ⟨hp, g, d, tk, os⟩ ∧ (rest = [(.int p t, .int p' t'), (.int q u, .int q' u')] ∨ (rest = [(.int q u, .int q' u')] ∧ p = p') ∨ (rest = [] ∧ p = p' ∧ q = q'))) _
    case turn =>
      rintro ⟨y, x⟩ rest b s' ⟨hb', rfl, hz⟩
      rcases hz with hz | ⟨hz, e1⟩ | ⟨hz, _⟩
      · injection hz with hyx hrest
        cases hyx
        refine wpAny_bind (SeqAt.EqAt.int_int _ _ _ _ prog w _ _ ?_)
        by_cases e : p = p'
        · rw [beq_iff_eq.mpr e]
          exact wpAny_pure ⟨rfl, rfl, .inr (.inl ⟨hrest, e⟩)⟩
        · rw [beq_eq_false_iff_ne.mpr e]
          have e2 : decide (p < p' ∨ (p = p' ∧ q < q')) = decide (p < p') := by simp [e]
          rw [e2] at h
          refine wpAny_bind (wpAny_rule (wpAny_bind ?_))
          show wpAny _ _ (compareOp .Lt (.int p t) (.int p' t')) _ _ _
          exact PyProof.Rows.lt_int (wpAny_bind (wpAny_pure (wpAny_pure (wpAny_pure ⟨_, rfl, h⟩))))
      · injection hz with hyx hrest
        cases hyx
        refine wpAny_bind (SeqAt.EqAt.int_int _ _ _ _ prog w _ _ ?_)
        by_cases e : q = q'
        · rw [beq_iff_eq.mpr e]
          exact wpAny_pure ⟨rfl, rfl, .inr (.inr ⟨hrest, e1, e⟩)⟩
        · rw [beq_eq_false_iff_ne.mpr e]
          have e2 : decide (p < p' ∨ (p = p' ∧ q < q')) = decide (q < q') := by simp [e1]
          rw [e2] at h
          refine wpAny_bind (wpAny_rule (wpAny_bind ?_))
          show wpAny _ _ (compareOp .Lt (.int q u) (.int q' u')) _ _ _
          exact PyProof.Rows.lt_int (wpAny_bind (wpAny_pure (wpAny_pure (wpAny_pure ⟨_, rfl, h⟩))))
      · cases hz
    case fin =>
      rintro ⟨b1, b2⟩ s' ⟨hb', rfl, hz⟩
      simp only at hb'
      subst hb'
      rcases hz with hz | ⟨hz, _⟩ | ⟨_, e1, e2⟩
      · cases hz
      · cases hz
      · have e3 : decide (p < p' ∨ (p = p' ∧ q < q')) = false := by simp [e1, e2]
        rw [e3] at h
        exact wpAny_pure ⟨_, rfl, h⟩
    case h => exact ⟨rfl, rfl, .inl rfl⟩

section
variable {prog : Program} {w : World} {h₀ : Heap} {C : Cx} {ρ : Vs}
theorem cmp_lt_pair {n : Nat} (R : Room C.A n) {p q p' q' : Int} : CmpD prog w h₀ C ρ .Lt (.tup [.int p, .int q]) (.tup [.int p', .int q']) (decide (p < p' ∨ (p = p' ∧ q < q'))) := fun va vb s H ia ib => by
  cases ia with
  | tup a1 a2 a3 =>
    cases ib with
    | tup b1 b2 b3 =>
      obtain ⟨v, u, rfl, i1, i2⟩ := a3.two
      obtain ⟨v', u', rfl, j1, j2⟩ := b3.two
      obtain ⟨t, rfl⟩ := i1.int_inv; obtain ⟨u, rfl⟩ := i2.int_inv
      obtain ⟨t', rfl⟩ := j1.int_inv; obtain ⟨u', rfl⟩ := j2.int_inv
      exact richCompare_meets_room (op := .Lt) ⟨_, a2, rfl⟩ ⟨_, b2, rfl⟩ F.slot_tuple_lt F.entry_tuple_lt (F.args_tuple_lt_2 _ _) (tuple_lt_pair _ _ p q p' q' t u t' u' _ _)
        ⟨a2, b2, (fun x => nomatch x), keeps_refl s, .bool _⟩ (by have := R.units; omega)
end
end Mine

set_option Elab.async false
set_option linter.unusedVariables false
set_option linter.unusedSimpArgs false
namespace Mine
open PySem.Sre PySem.Builtin.Re

theorem runFor_halted {m : M} (h : m.outcome.isSome = true) : ∀ n, M.runFor n m = m
  | 0 => rfl
  | n + 1 => by unfold M.runFor; rw [if_pos h]
theorem runFor_succ {m : M} (h : m.outcome.isSome = false) (n : Nat) : M.runFor (n + 1) m = M.runFor n m.step := by
  show (if m.outcome.isSome = true then m else M.runFor n m.step) = _
  rw [if_neg (by rw [h]; exact Bool.false_ne_true)]
theorem runFor_add (a b : Nat) (m : M) : M.runFor (a + b) m = M.runFor b (M.runFor a m) := by
  induction a generalizing m with
  | zero => rw [Nat.zero_add]; rfl
  | succ a ih =>
    rw [Nat.succ_add]
    cases h : m.outcome.isSome with
    | true => rw [runFor_halted h, runFor_halted h, runFor_halted h]
    | false => rw [runFor_succ h, runFor_succ h, ih]

/-- m comes to its end at m' within n steps -/
def Ends (n : Nat) (m m' : M) : Prop := M.runFor n m = m' ∧ m'.outcome.isSome = true
theorem Ends.step {n : Nat} {m m₁ m' : M} (h : Ends n m₁ m') (ho : m.outcome = none) (e : m.step = m₁) : Ends (n + 1) m m' :=
  ⟨by rw [runFor_succ (by rw [ho]; rfl), e]; exact h.1, h.2⟩
theorem Ends.more {n k : Nat} {m m' : M} (h : Ends n m m') (l : n ≤ k) : Ends k m m' := by
  obtain ⟨j, rfl⟩ := Nat.exists_eq_add_of_le l
  exact ⟨by rw [runFor_add, h.1, runFor_halted h.2], h.2⟩

section
variable {Md : Model} {A : Around} {E : Value → Shared → Prop} {s : Shared}
theorem drive : ∀ (t : Nat) (n : Nat) (m m' : M) (Q : M → Shared → Prop), Ends n m m' → n ≤ t → 0 < t → Q m' s → wpAny Md A (reDrive t m) Q E s
  | 0, n, m, m', Q, h, l, p, q => absurd p (Nat.lt_irrefl _)
  | t + 1, n, m, m', Q, h, l, p, q => by
    unfold reDrive
    by_cases h4 : (m.runFor reTurnSteps).outcome.isSome = true
    · have e : m.runFor reTurnSteps = m' := by
        rcases Nat.le_total n reTurnSteps with z | z
        · exact (h.more z).1
        · obtain ⟨j, rfl⟩ := Nat.exists_eq_add_of_le z
          have := h.1
          rw [runFor_add, runFor_halted h4] at this
          exact this
      show wpAny Md A (if (m.runFor reTurnSteps).outcome.isSome = true then pure (m.runFor reTurnSteps) else do rule "sre.turn"; reDrive t (m.runFor reTurnSteps)) Q E s
      rw [if_pos h4, e]
      exact wpAny_pure q
    · have z : reTurnSteps ≤ n := by
        rcases Nat.le_total n reTurnSteps with z | z
        · rw [(h.more z).1] at h4; exact absurd h.2 h4
        · exact z
      obtain ⟨j, rfl⟩ := Nat.exists_eq_add_of_le z
      have h' : Ends j (m.runFor reTurnSteps) m' := ⟨by rw [← runFor_add]; exact h.1, h.2⟩
      have hj : 0 < j := by
        rcases Nat.eq_zero_or_pos j with q | q
        · subst q; have e : m.runFor reTurnSteps = m' := h'.1; rw [e] at h4; exact absurd h.2 h4
        · exact q
      show wpAny Md A (if (m.runFor reTurnSteps).outcome.isSome = true then pure (m.runFor reTurnSteps) else do rule "sre.turn"; reDrive t (m.runFor reTurnSteps)) Q E s
      rw [if_neg h4]
      have : reTurnSteps = 4 := rfl
      exact wpAny_bind (wpAny_rule (drive t j _ m' Q h' (by omega) (by omega) q))

theorem ruleLoop (m : M) {Q : PUnit → Shared → Prop} (q : Q ⟨⟩ s) : wpAny Md A (forIn (List.range Sre.names.size) PUnit.unit fun i (r : PUnit) => (do
    if m.seen.has i = true then do rule (Sre.names.getD i ""); pure (ForInStep.yield PUnit.unit) else pure (ForInStep.yield PUnit.unit) : Sem (ForInStep PUnit))) Q E s := by
  refine wpAny_forIn_list _ (fun _ _ s' => s' = s) _ (fun x rest b s' e => ?_) (fun b s' e => by cases b; rw [e]; exact q) _ _ rfl
  subst e
  split
  · exact wpAny_bind (wpAny_rule (wpAny_pure rfl))
  · exact wpAny_pure rfl

theorem toEnd {n : Nat} {m m' : M} {Q : Option M → Shared → Prop} (h : Ends n m m') (l : n ≤ 2 ^ 64) (hm : m'.outcome = some .matched → Q (some m') s) (hf : m'.outcome = some .failed → Q none s)
    (hs : ∀ why, m'.outcome ≠ some (.stuck why)) : wpAny Md A (reRunToEnd m) Q E s := by
  unfold reRunToEnd
  refine wpAny_bind (drive (2 ^ 64) n m m' _ h l (Nat.two_pow_pos 64) ?_)
  refine wpAny_bind ?_
  refine ruleLoop m' ?_
  cases ho : m'.outcome with
  | none => have := h.2; rw [ho] at this; cases this
  | some o =>
    cases o with
    | matched => exact wpAny_pure (hm ho)
    | failed => exact wpAny_pure (hf ho)
    | stuck why => exact absurd ho (hs why)
end
end Mine

set_option Elab.async false
set_option linter.unusedVariables false
set_option linter.unusedSimpArgs false
set_option maxRecDepth 10000
namespace Mine
open PySem.Sre PySem.Builtin.Re

/-- a dot at a line's start -/
def dotCode : Array Nat := #[14, 4, 0, 1, 1, 6, 1, 16, 46, 1]

def st1 (text : Array Nat) (s : Nat) (first : Bool) (seen : Sre.Seen) : M :=
  { code := dotCode, text, lim := text.size, start := s, lastStart := text.size, pc := 5, pos := s, handed := s, outermost := first, marks := #[], seen,
    frames := [{ wait := .nextStart, pc := 5, pos := s, outermost := first }], weight := 1 }
def dotAt (text : Array Nat) (s : Nat) : Bool := (s == 0 || text.getD (s - 1) 0 == 10) && decide (s < text.size) && text.getD s 0 == 46

theorem st1_at (text : Array Nat) (s : Nat) (first : Bool) (seen : Sre.Seen) :
    (st1 text s first seen).step = if (s == 0 || text.getD (s - 1) 0 == 10) = true then { st1 text s first ((seen.add 6).add 44) with pc := 7 } else (st1 text s first ((seen.add 6).add 44)).say false := rfl
theorem st1_lit (text : Array Nat) (s : Nat) (first : Bool) (seen : Sre.Seen) :
    ({ st1 text s first seen with pc := 7 } : M).step = if s ≥ text.size then ({ st1 text s first (seen.add 16) with pc := 7 } : M).say false else
      (match (text.getD s 0 == 46) with | false => ({ st1 text s first (seen.add 16) with pc := 7 } : M).say false | true => { st1 text s first (seen.add 16) with pc := 9, pos := s + 1 }) := by
  show (if s ≥ text.size then _ else _) = _
  split
  · rfl
  · show (match (Except.ok (text.getD s 0 == 46, seen.add 16) : Except String (Bool × Sre.Seen)) with | .error why => _ | .ok (false, seen) => _ | .ok (true, seen) => _) = _
    cases (text.getD s 0 == 46) <;> rfl
theorem st1_fail (text : Array Nat) (s pc : Nat) (first : Bool) (seen : Sre.Seen) :
    (({ st1 text s first seen with pc := pc } : M).say false).step = if s < text.size then st1 text (s + 1) false seen else ({ st1 text s first seen with pc := 5, frames := [], weight := 0 } : M).say false := rfl
theorem st1_over (text : Array Nat) (s : Nat) (first : Bool) (seen : Sre.Seen) :
    (({ st1 text s first seen with pc := 5, frames := [], weight := 0 } : M).say false).step = { ({ st1 text s first seen with pc := 5, frames := [], weight := 0 } : M).say false with outcome := some .failed } := rfl
theorem st1_succ (text : Array Nat) (s : Nat) (first : Bool) (seen : Sre.Seen) :
    ({ st1 text s first seen with pc := 9, pos := s + 1 } : M).step = ({ st1 text s first (seen.add 1) with pc := 9, pos := s + 1, handed := s + 1 } : M).say true := by
  show (if (first && ((false && _) || (false && _))) = true then _ else _) = _
  cases first <;> rfl
theorem st1_win (text : Array Nat) (s : Nat) (first : Bool) (seen : Sre.Seen) :
    (({ st1 text s first seen with pc := 9, pos := s + 1, handed := s + 1 } : M).say true).step = ({ st1 text s first seen with handed := s + 1, frames := [], weight := 0 } : M).say true := rfl
theorem st1_won (text : Array Nat) (s : Nat) (first : Bool) (seen : Sre.Seen) :
    (({ st1 text s first seen with handed := s + 1, frames := [], weight := 0 } : M).say true).step = { ({ st1 text s first seen with handed := s + 1, frames := [], weight := 0 } : M).say true with outcome := some .matched } := rfl

/-- where the next dot at a line's start stands -/
def nextDot (text : Array Nat) : Nat → Nat → Option Nat
  | 0, _ => none
  | n + 1, s => if dotAt text s then some s else nextDot text n (s + 1)

theorem search1 (text : Array Nat) : ∀ (n s : Nat) (first : Bool) (seen : Sre.Seen), s + n = text.size → ∃ m' k, k ≤ 5 * n + 5 ∧ Ends k (st1 text s first seen) m' ∧
    match nextDot text n s with
    | some p => m'.outcome = some .matched ∧ m'.start = p ∧ m'.handed = p + 1
    | none => m'.outcome = some .failed
  | 0, s, first, seen, e => by
    have hs : s = text.size := by omega
    have hn : ¬ s < text.size := by omega
    -- no sign is left: the test, or the sign, fails
    have fin : ∀ (pc : Nat) (seen : Sre.Seen), ∃ m' k, k ≤ 2 ∧ Ends k (({ st1 text s first seen with pc := pc } : M).say false) m' ∧ m'.outcome = some .failed := fun pc seen => by
      exact ⟨_, 2, Nat.le_refl _, Ends.step (n := 1) (Ends.step (n := 0) ⟨rfl, rfl⟩ rfl (st1_over text s first seen)) rfl ((st1_fail text s pc first seen).trans (if_neg hn)), rfl⟩
    by_cases ha : (s == 0 || text.getD (s - 1) 0 == 10) = true
    · obtain ⟨m', k, hk, he, ho⟩ := fin 7 (((seen.add 6).add 44).add 16)
      refine ⟨m', k + 2, by omega, ?_, ho⟩
      refine Ends.step (n := k + 1) ?_ rfl ((st1_at text s first seen).trans (if_pos ha))
      refine Ends.step (n := k) he rfl ((st1_lit text s first _).trans (if_pos (by omega)))
    · obtain ⟨m', k, hk, he, ho⟩ := fin 5 ((seen.add 6).add 44)
      exact ⟨m', k + 1, by omega, Ends.step he rfl ((st1_at text s first seen).trans (if_neg ha)), ho⟩
  | n + 1, s, first, seen, e => by
    have hs : s < text.size := by omega
    have go : ∀ (pc : Nat) (seen : Sre.Seen), dotAt text s = false → ∃ m' k, k ≤ 5 * n + 6 ∧ Ends k (({ st1 text s first seen with pc := pc } : M).say false) m' ∧
        match nextDot text (n + 1) s with
        | some p => m'.outcome = some .matched ∧ m'.start = p ∧ m'.handed = p + 1
        | none => m'.outcome = some .failed := fun pc seen hd => by
      obtain ⟨m', k, hk, he, ho⟩ := search1 text n (s + 1) false seen (by omega)
      refine ⟨m', k + 1, by omega, Ends.step he rfl ((st1_fail text s pc first seen).trans (if_pos hs)), ?_⟩
      unfold nextDot
      rw [hd]
      exact ho
    by_cases ha : (s == 0 || text.getD (s - 1) 0 == 10) = true
    · by_cases hc : (text.getD s 0 == 46) = true
      · have hd : dotAt text s = true := by unfold dotAt; rw [ha, hc]; simp [hs]
        refine ⟨_, 5, by omega, Ends.step (n := 4) (Ends.step (n := 3) (Ends.step (n := 2) (Ends.step (n := 1) (Ends.step (n := 0) ⟨rfl, rfl⟩ rfl (st1_won text s first ((((seen.add 6).add 44).add 16).add 1))) rfl (st1_win text s first ((((seen.add 6).add 44).add 16).add 1))) rfl (st1_succ text s first (((seen.add 6).add 44).add 16))) rfl ((st1_lit text s first ((seen.add 6).add 44)).trans ?_)) rfl ((st1_at text s first seen).trans (if_pos ha)), ?_⟩
        · rw [if_neg (by omega), hc]
        · unfold nextDot
          rw [hd]
          exact ⟨rfl, rfl, rfl⟩
      · have hd : dotAt text s = false := by unfold dotAt; rw [Bool.not_eq_true] at hc; rw [hc, Bool.and_false]
        obtain ⟨m', k, hk, he, ho⟩ := go 7 (((seen.add 6).add 44).add 16) hd
        refine ⟨m', k + 2, by omega, Ends.step (n := k + 1) (Ends.step (n := k) he rfl ((st1_lit text s first _).trans ?_)) rfl ((st1_at text s first seen).trans (if_pos ha)), ho⟩
        rw [Bool.not_eq_true] at hc
        rw [if_neg (by omega), hc]
    · have hd : dotAt text s = false := by unfold dotAt; rw [Bool.not_eq_true] at ha; rw [ha, Bool.false_and, Bool.false_and]
      obtain ⟨m', k, hk, he, ho⟩ := go 5 ((seen.add 6).add 44) hd
      exact ⟨m', k + 1, by omega, Ends.step he rfl ((st1_at text s first seen).trans (if_neg ha)), ho⟩

theorem forSearch1 (text : Array Nat) (s : Nat) (hs : s ≤ text.size) : ∃ m' k, k ≤ 5 * text.size + 5 ∧ Ends k (forSearch dotCode text 0 s text.size false) m' ∧
    match nextDot text (text.size - s) s with
    | some p => m'.outcome = some .matched ∧ m'.start = p ∧ m'.handed = p + 1
    | none => m'.outcome = some .failed := by
  rcases Nat.lt_or_ge s text.size with h | h
  · obtain ⟨m', k, hk, he, ho⟩ := search1 text (text.size - s) s true (({} : Sre.Seen).add 14) (by omega)
    refine ⟨m', k, by omega, ?_, ho⟩
    have : forSearch dotCode text 0 s text.size false = st1 text s true (({} : Sre.Seen).add 14) := by
      show (if (decide (s > text.size) || decide (text.size - s < 1)) = true then _ else _) = _
      rw [if_neg (by simp; omega)]
      rfl
    rw [this]; exact he
  · have e : s = text.size := by omega
    subst e
    have hz : text.size - text.size = 0 := by omega
    rw [hz]
    have : forSearch dotCode text 0 text.size text.size false = ({ code := dotCode, text, lim := text.size, start := text.size, pc := 5, pos := text.size, handed := text.size, marks := #[], seen := ({} : Sre.Seen).add 14 } : M).say false := by
      show (if (decide (text.size > text.size) || decide (text.size - text.size < 1)) = true then _ else _) = _
      rw [if_pos (by simp)]
      rfl
    rw [this]
    exact ⟨_, 1, by omega, Ends.step (n := 0) ⟨rfl, rfl⟩ rfl rfl, rfl⟩
end Mine

set_option Elab.async false
set_option linter.unusedVariables false
set_option linter.unusedSimpArgs false
set_option maxRecDepth 10000
namespace Mine
open PySem.Sre PySem.Builtin.Re

/-- a line's end: CR LF, LF, or CR with no LF behind it -/
def nlCode : Array Nat := #[14, 9, 4, 1, 2, 16, 10, 16, 13, 0, 7, 7, 16, 13, 16, 10, 15, 18, 5, 16, 10, 15, 13, 11, 16, 13, 5, 5, 0, 16, 10, 1, 15, 2, 0, 1]

def mk2 (text : Array Nat) (p pc pos handed : Nat) (om : Bool) (frames : List Sre.Frame) (weight : Nat) (ans : Option Bool) (seen : Sre.Seen) : M :=
  { code := nlCode, text, lim := text.size, start := p, lastStart := text.size, pc, pos, handed, outermost := om, marks := #[], seen, frames, weight, answer := ans }
def fr (w : Wait) (pc pos : Nat) (om : Bool) : Sre.Frame := { wait := w, pc, pos, outermost := om }

section
variable {text : Array Nat} {p pos handed weight n : Nat} {om : Bool} {frames : List Sre.Frame} {seen : Sre.Seen} {m' : M}

/-- m ends in a match from p to e -/
def Wins (n : Nat) (m : M) (p e : Nat) : Prop := ∃ m', Ends n m m' ∧ m'.outcome = some .matched ∧ m'.start = p ∧ m'.handed = e
theorem Wins.step {n : Nat} {m m₁ : M} {p e : Nat} (h : Wins n m₁ p e) (ho : m.outcome = none) (q : m.step = m₁) : Wins (n + 1) m p e := by
  obtain ⟨m', a, b⟩ := h
  exact ⟨m', a.step ho q, b⟩
theorem Wins.more {n k : Nat} {m : M} {p e : Nat} (h : Wins n m p e) (l : n ≤ k) : Wins k m p e := by
  obtain ⟨m', a, b⟩ := h
  exact ⟨m', a.more l, b⟩
theorem wins_now {f : Sre.Frame} {e : Nat} (hf : f.wait = .nextStart) : Wins 2 (mk2 text p n pos e om [f] weight (some true) seen) p e := by
  obtain ⟨w, a, b, c, d, k, l, bg⟩ := f
  simp only at hf
  subst hf
  exact Wins.step (n := 1) (Wins.step (n := 0) ⟨_, ⟨rfl, rfl⟩, rfl, rfl, rfl⟩ rfl rfl) rfl rfl
theorem wins_branch {f g : Sre.Frame} {e : Nat} (hf : f.wait = .nextStart) (hg : g.wait = .nextBranch) : Wins 3 (mk2 text p n pos e om [g, f] weight (some true) seen) p e := by
  obtain ⟨w, a, b, c, d, k, l, bg⟩ := g
  simp only at hg
  subst hg
  exact Wins.step (n := 2) (wins_now hf) rfl rfl

theorem lit_ok {pc c : Nat} (hpc : pc < 36) (hop : nlCode.getD pc 0 = 16) (hw : nlCode.getD (pc + 1) 0 = c) (hp : pos < text.size) (hc : text.getD pos 0 = c) :
    (mk2 text p pc pos handed om frames weight none seen).step = mk2 text p (pc + 2) (pos + 1) handed om frames weight none (seen.add 16) := by
  have e1 : ∀ m : M, m = mk2 text p pc pos handed om frames weight none seen → m.step = m.exec := fun m hm => by
    subst hm
    show (if pc < 36 then _ else _) = _
    rw [if_pos hpc]
  rw [e1 _ rfl]
  unfold M.exec
  have hw0 : (mk2 text p pc pos handed om frames weight none seen).word 0 = 16 := hop
  rw [hw0]
  show (if pos ≥ text.size then _ else _) = _
  rw [if_neg (by omega)]
  have ha : accepts nlCode pc (text.getD pos 0) (seen.add 16) = .ok (text.getD pos 0 == nlCode.getD (pc + 1) 0, seen.add 16) := by unfold accepts; rw [hop]; rfl
  show (match accepts nlCode pc (text.getD pos 0) (seen.add 16) with | .error why => _ | .ok (false, seen) => _ | .ok (true, seen) => _) = _
  rw [ha, hw, hc, beq_self_eq_true]
  have hi : itemWidth nlCode pc = 2 := by unfold itemWidth; rw [hop]; rfl
  show mk2 text p (pc + itemWidth nlCode pc) (pos + 1) handed om frames weight none (seen.add 16) = _
  rw [hi]
theorem lit_no {pc c : Nat} (hpc : pc < 36) (hop : nlCode.getD pc 0 = 16) (hw : nlCode.getD (pc + 1) 0 = c) (hc : text.size ≤ pos ∨ text.getD pos 0 ≠ c) :
    (mk2 text p pc pos handed om frames weight none seen).step = mk2 text p pc pos handed om frames weight (some false) (seen.add 16) := by
  have e1 : ∀ m : M, m = mk2 text p pc pos handed om frames weight none seen → m.step = m.exec := fun m hm => by
    subst hm
    show (if pc < 36 then _ else _) = _
    rw [if_pos hpc]
  rw [e1 _ rfl]
  unfold M.exec
  have hw0 : (mk2 text p pc pos handed om frames weight none seen).word 0 = 16 := hop
  rw [hw0]
  show (if pos ≥ text.size then _ else _) = _
  by_cases hp : pos ≥ text.size
  · rw [if_pos hp]; rfl
  · rw [if_neg hp]
    have ha : accepts nlCode pc (text.getD pos 0) (seen.add 16) = .ok (text.getD pos 0 == nlCode.getD (pc + 1) 0, seen.add 16) := by unfold accepts; rw [hop]; rfl
    show (match accepts nlCode pc (text.getD pos 0) (seen.add 16) with | .error why => _ | .ok (false, seen) => _ | .ok (true, seen) => _) = _
    have hb : (text.getD pos 0 == nlCode.getD (pc + 1) 0) = false := by rw [hw]; simpa using hc.resolve_left hp
    rw [ha, hb]
    rfl
theorem succ_ok {frames : List Sre.Frame} : (mk2 text p 35 pos handed om frames weight none seen).step = mk2 text p 35 pos pos om frames weight (some true) (seen.add 1) := by
  show (if (om && ((false && _) || (false && _))) = true then _ else _) = _
  cases om <;> rfl

theorem nl_wins (first : Bool) (seen : Sre.Seen) (hp : p < text.size) (hc : text.getD p 0 = 10 ∨ text.getD p 0 = 13) :
    Wins 20 (mk2 text p 10 p p first [fr .nextStart 10 p first] 1 none seen) p (if text.getD p 0 = 13 ∧ p + 1 < text.size ∧ text.getD (p + 1) 0 = 10 then p + 2 else p + 1) := by
  have kick : ∀ {n e : Nat}, (∀ seen, Wins n (mk2 text p 12 p p first [fr .nextBranch 11 p first, fr .nextStart 10 p first] 2 none seen) p e) → Wins (n + 1) (mk2 text p 10 p p first [fr .nextStart 10 p first] 1 none seen) p e :=
    fun h => Wins.step (h _) rfl rfl
  have alt2 : ∀ {n e pos hd : Nat} {seen : Sre.Seen}, (∀ seen, Wins n (mk2 text p 19 p p first [fr .nextBranch 18 p first, fr .nextStart 10 p first] 2 none seen) p e) →
      Wins (n + 1) (mk2 text p pos hd p first [fr .nextBranch 11 p first, fr .nextStart 10 p first] 2 (some false) seen) p e := fun h => Wins.step (h _) rfl rfl
  have alt3 : ∀ {n e pos hd : Nat} {seen : Sre.Seen}, (∀ seen, Wins n (mk2 text p 24 p p first [fr .nextBranch 23 p first, fr .nextStart 10 p first] 2 none seen) p e) →
      Wins (n + 1) (mk2 text p pos hd p first [fr .nextBranch 18 p first, fr .nextStart 10 p first] 2 (some false) seen) p e := fun h => Wins.step (h _) rfl rfl
  have fin : ∀ {k e hd wt : Nat} {seen : Sre.Seen} {g : Sre.Frame}, g.wait = .nextBranch → Wins 4 (mk2 text p 35 e hd first [g, fr .nextStart 10 p first] wt none seen) p e := fun hg =>
    Wins.step (n := 3) (wins_branch rfl hg) rfl succ_ok
  rcases hc with hc | hc
  · rw [if_neg (by rw [hc]; rintro ⟨q, _⟩; cases q)]
    refine Wins.more (n := 9) (kick (n := 8) fun seen => Wins.step (n := 7) (alt2 (n := 6) fun seen => Wins.step (n := 5) (Wins.step (n := 4) (fin (k := 0) rfl) rfl rfl) rfl (lit_ok (by decide) rfl rfl hp hc)) rfl (lit_no (by decide) rfl rfl (.inr (by rw [hc]; decide)))) (by decide)
  · by_cases hn : p + 1 < text.size ∧ text.getD (p + 1) 0 = 10
    · rw [if_pos ⟨hc, hn⟩]
      refine Wins.more (n := 8) (kick (n := 7) fun seen => Wins.step (n := 6) (Wins.step (n := 5) (Wins.step (n := 4) (fin (k := 0) rfl) rfl rfl) rfl (lit_ok (pc := 14) (c := 10) (by decide) rfl rfl hn.1 hn.2)) rfl (lit_ok (pc := 12) (c := 13) (by decide) rfl rfl hp hc)) (by decide)
    · rw [if_neg fun q => hn q.2]
      have hn' : text.size ≤ p + 1 ∨ text.getD (p + 1) 0 ≠ 10 := by
        rcases Nat.lt_or_ge (p + 1) text.size with q | q
        · exact .inr fun z => hn ⟨q, z⟩
        · exact .inl q
      refine Wins.more (n := 15) (kick (n := 14) fun seen => Wins.step (n := 13) (Wins.step (n := 12) (alt2 (n := 11) fun seen => Wins.step (n := 10) (alt3 (n := 9) fun seen => Wins.step (n := 8) (Wins.step (n := 7) (m₁ := mk2 text p 29 (p + 1) (p + 1) false [fr .lookNot 26 (p + 1) first, fr .nextBranch 23 p first, fr .nextStart 10 p first] 3 none _)
        (Wins.step (n := 6) (Wins.step (n := 5) (m₁ := mk2 text p 32 (p + 1) (p + 1) first [fr .nextBranch 23 p first, fr .nextStart 10 p first] 2 none _) (Wins.step (n := 4) (fin (k := 0) rfl) rfl rfl) rfl rfl) rfl (lit_no (by decide) rfl rfl hn')) rfl rfl) rfl (lit_ok (by decide) rfl rfl hp hc))
        rfl (lit_no (by decide) rfl rfl (.inr (by rw [hc]; decide)))) rfl (lit_no (by decide) rfl rfl hn')) rfl (lit_ok (by decide) rfl rfl hp hc)) (by decide)

/-- where the next line's end stands -/
def nextNl (text : Array Nat) : Nat → Nat → Option Nat
  | 0, _ => none
  | n + 1, s => if text.getD s 0 = 10 ∨ text.getD s 0 = 13 then some s else nextNl text n (s + 1)
def nlEnd (text : Array Nat) (p : Nat) : Nat := if text.getD p 0 = 13 ∧ p + 1 < text.size ∧ text.getD (p + 1) 0 = 10 then p + 2 else p + 1
theorem nextNl_spec (text : Array Nat) : ∀ (n s p : Nat), nextNl text n s = some p → (text.getD p 0 = 10 ∨ text.getD p 0 = 13) ∧ s ≤ p ∧ p < s + n
  | 0, s, p, h => by cases h
  | n + 1, s, p, h => by
    unfold nextNl at h
    split at h
    · cases h; exact ⟨‹_›, Nat.le_refl _, by omega⟩
    · obtain ⟨a, b, c⟩ := nextNl_spec text n (s + 1) p h
      exact ⟨a, by omega, by omega⟩

theorem inSet_nl (c : Nat) (seen : Sre.Seen) : ∃ seen', inSet nlCode c nlCode.size 5 true seen = .ok (decide (c = 10 ∨ c = 13), seen') := by
  show ∃ seen', (if (c == 10) = true then (.ok (true, _) : Except String (Bool × Sre.Seen)) else (if (c == 13) = true then .ok (true, _) else .ok (false, _))) = _
  by_cases h1 : c = 10
  · subst h1; exact ⟨_, rfl⟩
  · rw [if_neg (by simpa using h1)]
    by_cases h2 : c = 13
    · subst h2; exact ⟨_, rfl⟩
    · rw [if_neg (by simpa using h2)]
      exact ⟨_, by rw [decide_eq_false (by rintro (q | q); exact h1 q; exact h2 q)]⟩
theorem admitted_nl (m : M) (hm : m.code = nlCode) (ht : m.text = text) (hl : m.lim = text.size) : ∀ (n s : Nat) (seen : Sre.Seen), s + n = text.size → ∃ seen', M.admitted m (n + 1) s seen = .ok (nextNl text n s, seen')
  | 0, s, seen, e => by
    unfold M.admitted
    rw [if_pos (by rw [hl]; omega)]
    exact ⟨_, rfl⟩
  | n + 1, s, seen, e => by
    unfold M.admitted
    rw [if_neg (by rw [hl]; omega), hm, ht]
    obtain ⟨q, hq⟩ := inSet_nl (text.getD s 0) seen
    rw [hq]
    unfold nextNl
    by_cases h : text.getD s 0 = 10 ∨ text.getD s 0 = 13
    · rw [if_pos h, decide_eq_true h]; exact ⟨_, rfl⟩
    · rw [if_neg h, decide_eq_false h]
      exact admitted_nl m hm ht hl n (s + 1) q (by omega)

theorem forSearch2 (text : Array Nat) (s : Nat) (hs : s ≤ text.size) : ∃ m' k, k ≤ 25 ∧ Ends k (forSearch nlCode text 0 s text.size false) m' ∧
    match nextNl text (text.size - s) s with
    | some p => m'.outcome = some .matched ∧ m'.start = p ∧ m'.handed = nlEnd text p
    | none => m'.outcome = some .failed := by
  rcases Nat.lt_or_ge s text.size with h | h
  · have e0 : forSearch nlCode text 0 s text.size false = M.attemptFrom ({ code := nlCode, text, lim := text.size, start := s, lastStart := text.size, pc := 10, pos := s, handed := s, marks := #[], seen := ({} : Sre.Seen).add 14 } : M) s true := by
      show (if (decide (s > text.size) || decide (text.size - s < 1)) = true then _ else _) = _
      rw [if_neg (by simp; omega)]
      rfl
    rw [e0]
    obtain ⟨seen', ha⟩ := admitted_nl (text := text) ({ code := nlCode, text, lim := text.size, start := s, lastStart := text.size, pc := 10, pos := s, handed := s, marks := #[], seen := ({} : Sre.Seen).add 14 } : M) rfl rfl rfl (text.size - s) s (({} : Sre.Seen).add 14) (by omega)
    have e1 : ∀ r seen', M.admitted ({ code := nlCode, text, lim := text.size, start := s, lastStart := text.size, pc := 10, pos := s, handed := s, marks := #[], seen := ({} : Sre.Seen).add 14 } : M) (text.size + 1 - s) s (({} : Sre.Seen).add 14) = .ok (r, seen') →
        M.attemptFrom ({ code := nlCode, text, lim := text.size, start := s, lastStart := text.size, pc := 10, pos := s, handed := s, marks := #[], seen := ({} : Sre.Seen).add 14 } : M) s true = match r with
          | some p => mk2 text p 10 p p true [fr .nextStart 10 p true] 1 none seen'
          | none => mk2 text s 10 s s true [] 0 (some false) seen' := fun r seen' hr => by
      show (match M.admitted ({ code := nlCode, text, lim := text.size, start := s, lastStart := text.size, pc := 10, pos := s, handed := s, marks := #[], seen := ({} : Sre.Seen).add 14 } : M) (text.size + 1 - s) s (({} : Sre.Seen).add 14) with | .ok (some s, seen) => _ | .ok (none, seen) => _ | .error why => _) = _
      rw [hr]
      cases r <;> rfl
    rw [show text.size - s + 1 = text.size + 1 - s by omega] at ha
    rw [e1 _ _ ha]
    cases hn : nextNl text (text.size - s) s with
    | none => exact ⟨_, 1, by omega, Ends.step (n := 0) ⟨rfl, rfl⟩ rfl rfl, rfl⟩
    | some p =>
      obtain ⟨h1, h2, h3⟩ := nextNl_spec text _ _ _ hn
      obtain ⟨m', he, ho⟩ := nl_wins (p := p) (text := text) true seen' (by omega) h1
      exact ⟨m', 20, by omega, he, ho⟩
  · have e : s = text.size := by omega
    subst e
    have hz : text.size - text.size = 0 := by omega
    rw [hz]
    have : forSearch nlCode text 0 text.size text.size false = ({ code := nlCode, text, lim := text.size, start := text.size, pc := 10, pos := text.size, handed := text.size, marks := #[], seen := ({} : Sre.Seen).add 14 } : M).say false := by
      show (if (decide (text.size > text.size) || decide (text.size - text.size < 1)) = true then _ else _) = _
      rw [if_pos (by simp)]
      rfl
    rw [this]
    exact ⟨_, 1, by omega, Ends.step (n := 0) ⟨rfl, rfl⟩ rfl rfl, rfl⟩
end
end Mine

set_option Elab.async false
set_option linter.unusedVariables false
set_option linter.unusedSimpArgs false
set_option maxRecDepth 100000
namespace Mine
open PySem.Sre PySem.Builtin.Re PySem.Builtin

theorem pattern_attrs : PlainAttrs "re.Pattern" :=
  ⟨⟨"object.__getattribute__", by rw [typeLookup_type, builtinLookup_eq_fast]; kernel_rfl, by decide +kernel⟩, by rw [typeLookup_type, builtinLookup_eq_fast]; kernel_rfl⟩
theorem pattern_owner : Manifest.owners.lookup (String.ofList ['n', 'r', 'e', 't', 't', 'a', 'P', '.', 'e', 'r'].reverse) = some Manifest.sig_re_Pattern := by kernel_rfl
theorem slot_sub : Slot "re.Pattern" "sub" "re.Pattern.sub" :=
  .of (owner := "re.Pattern") (n := "sub") (by rw [typeLookup_type, builtinLookup_eq_fast]; kernel_rfl) (by decide +kernel) (by decide +kernel) (by decide +kernel)
    (by first | exact .inl (by decide +kernel) | exact .inr (by decide +kernel)) (by rw [isSubtype_type]; kernel_rfl)
theorem type_sub : typeOf (.builtin "re.Pattern.sub") = pure (.type "method_descriptor") := by show builtinType _ = _; rw [builtinType_eq_fast]; kernel_rfl
theorem entry_sub : entryFor table "re.Pattern.sub" = some Builtin.«re.Pattern.sub» := entryFor_of_tree (by kernel_rfl)
theorem entry_sub_loop : entryFor table "re.Pattern.sub.loop" = some Builtin.«re.Pattern.sub.loop» := entryFor_of_tree (by kernel_rfl)
theorem plain_sub_loop : plainId "re.Pattern.sub.loop" = true := by decide +kernel
theorem args_sub (a b c : Value) : argsOk "re.Pattern.sub" ⟨[a, b, c], []⟩ := by
  unfold argsOk; rw [signature?_of (id := "re.Pattern.sub") (n := ['b', 'u', 's']) (o := ['n', 'r', 'e', 't', 't', 'a', 'P', '.', 'e', 'r']) (by kernel_rfl) pattern_owner]; kernel_rfl
end Mine

set_option Elab.async false
set_option linter.unusedVariables false
set_option linter.unusedSimpArgs false
set_option maxRecDepth 100000
namespace Mine
open PySem.Sre PySem.Builtin.Re PySem.Builtin

/-- the object at P is the pattern with this code, for texts, without groups -/
def IsPat (h : Heap) (P : Addr) (code : Array Nat) : Prop :=
  ∃ (fs : Array Value) (T : Addr) (ws : Array Value) (n : Nat), h.get? P = some { cls := .type "re.Pattern", data := .fields fs } ∧ fs.getD 5 .none = .ref T ∧ reRawNat (fs.getD 2 .none) = 0 ∧ reRawNat (fs.getD 6 .none) = 0 ∧
    h.get? T = some { cls := .type "tuple", data := .seq ws n } ∧ (ws.map reRawOf).map (·.toNat) = code
theorem IsPat.keep {h h' : Heap} {P : Addr} {code : Array Nat} (i : IsPat h P code) (k : ∀ b o, h.get? b = some o → h'.get? b = some o) : IsPat h' P code := by
  obtain ⟨fs, T, ws, n, h1, h2, h3, h4, h5, h6⟩ := i
  exact ⟨fs, T, ws, n, k _ _ h1, h2, h3, h4, k _ _ h5, h6⟩

/-- where the next match lies, by the machine -/
def Finds (code text : Array Nat) (next : Nat → Option (Nat × Nat)) : Prop :=
  ∀ s, s ≤ text.size → ∃ m' k, k ≤ 2 ^ 64 ∧ Ends k (forSearch code text 0 s text.size false) m' ∧
    match next s with
    | some (p, e) => m'.outcome = some .matched ∧ m'.start = p ∧ m'.handed = e ∧ s ≤ p ∧ p < e ∧ e ≤ text.size
    | none => m'.outcome = some .failed

def subPieces (text : Array Nat) (repl : Str) (next : Nat → Option (Nat × Nat)) : Nat → Nat → List Str
  | 0, _ => []
  | n + 1, done => match next done with
    | none => if done < text.size then [⟨text.extract done text.size⟩] else []
    | some (p, e) => (if done < p then [⟨text.extract done p⟩] else []) ++ repl :: subPieces text repl next n e

section
variable {prog : Program} {w : World} {A : Around} {s : Shared}
theorem whole_target {P : Addr} {code : Array Nat} {x : Str} {t : Tok} {E : Value → Shared → Prop} {Q : ReTarget → Shared → Prop} (hp : IsPat s.heap P code)
    (hq : Q { pattern := .ref P, string := .str x t, code, text := x.cps, kind := 0, groups := 0, pos := 0, lim := x.cps.size } s) : wpAny (model prog w) A (reWholeTarget (.ref P) (.str x t)) Q E s := by
  obtain ⟨fs, T, ws, n, h1, h2, h3, h4, h5, h6⟩ := hp
  unfold reWholeTarget
  refine wpAny_bind (wpAny_fieldsOf h1 rfl ?_)
  refine wpAny_bind ?_
  show wpAny _ _ (pure (x.cps, 0)) _ _ _
  refine wpAny_pure ?_
  rw [h4]
  show wpAny _ _ (reRawItems (fs.getD 5 .none) >>= _) _ _ _
  unfold reRawItems
  rw [h2]
  refine wpAny_bind (wpAny_bind (wpAny_seqItems h5 rfl (wpAny_pure ?_)))
  rw [h3]
  show wpAny _ _ (pure _) _ _ _
  refine wpAny_pure ?_
  dsimp only [Option.getD]
  rw [h6]
  exact hq

def subArgs (P L : Addr) (x r : Str) (t tr : Tok) (n done : Int) : Args :=
  ⟨[.ref P, .str x t, .str r tr, rawInt 0, rawInt 0, rawInt n, rawInt done, rawInt done, .bool false, .ref L, .bool false], []⟩

theorem loop_tree (P L : Addr) (x r : Str) (t tr : Tok) (n done : Int) : «re.Pattern.sub.loop» (subArgs P L x r t tr n done) = (do
    let T ← reWholeTarget (.ref P) (.str x t)
    reLiteralCannotBeTurned (.str r tr)
    match ← reNextFound T done.toNat false with
    | some m => do
      if done.toNat < m.start then updateSeq L (·.push (← reSlice T.text T.kind done.toNat m.start))
      updateSeq L (·.push (.str r tr))
      again (.builtin "re.Pattern.sub.loop" ⟨[.ref P, .str x t, .str r tr, rawInt 0, rawInt 0, rawInt (n + 1), rawInt m.handed, rawInt m.handed, .bool (m.handed == m.start), .ref L, .bool false], []⟩)
    | none => do
      if done.toNat < T.lim then updateSeq L (·.push (← reSlice T.text T.kind done.toNat T.lim))
      let joiner ← reSlice T.text T.kind 0 0
      let text ← if ((← seqItems? (.ref L)).getD #[]).isEmpty then pure joiner
        else call (.builtin (if T.kind == 0 then "str.join" else "bytes.join")) [joiner, .ref L]
      ret text) := rfl

/-- all but L stays -/
def K0 (L : Addr) (s s' : Shared) : Prop := ∃ h' tk, s' = { s with heap := h', toks := tk } ∧ ∀ b o, b ≠ L → s.heap.get? b = some o → h'.get? b = some o
theorem K0.refl (L : Addr) (s : Shared) : K0 L s s := ⟨s.heap, s.toks, rfl, fun _ _ _ e => e⟩
theorem K0.trans {L : Addr} {s s' s'' : Shared} (a : K0 L s s') (b : K0 L s' s'') : K0 L s s'' := by
  obtain ⟨h1, t1, rfl, k1⟩ := a
  obtain ⟨h2, t2, rfl, k2⟩ := b
  exact ⟨h2, t2, rfl, fun b o n e => k2 b o n (k1 b o n e)⟩
theorem K0.toks (L : Addr) (s : Shared) (k : Nat) : K0 L s { s with toks := k } := ⟨s.heap, k, rfl, fun _ _ _ e => e⟩
theorem K0.get {L : Addr} {s s' : Shared} (k : K0 L s s') {b : Addr} {o : Obj} (n : b ≠ L) (e : s.heap.get? b = some o) : s'.heap.get? b = some o := by
  obtain ⟨h1, t1, rfl, k1⟩ := k
  exact k1 b o n e
def Ends1 (R : Result → Shared → Prop) (M : Model) (A : Around) (fin : Fin) (s' : Shared) : Prop := match fin with | .done f => R (.ok f) s' | .again c' => c'.quiet = true ∧ codeAny M A c' R s'

def SubR (L : Addr) (s : Shared) (y : Str) : Result → Shared → Prop := fun res s' => ∃ v, res = .ok (.ret v) ∧ K0 L s s' ∧ ∃ t', v = .str y t'

theorem push_piece {L : Addr} {l : List (Str × Tok)} {c : Nat} {y : Str} {t : Tok} {E : Value → Shared → Prop} {Q : Unit → Shared → Prop} (hL : s.heap.get? L = some { cls := .type "list", data := .seq (strValues l).toArray c }) (hsz : l.length + 1 ≤ sizeLine)
    (hq : ∀ s' c', K0 L s s' → s'.heap.get? L = some { cls := .type "list", data := .seq (strValues (l ++ [(y, t)])).toArray c' } → Q () s') : wpAny (model prog w) A (updateSeq L (·.push (.str y t))) Q E s := by
  have e : (strValues l).toArray.size = l.length := by simp [strValues]
  refine wpAny_updateSeq hL rfl ?_ (by rw [e]; exact Nat.le_of_succ_le hsz) (by rw [Array.size_push, e]; exact Nat.le_succ_of_le hsz)
  have h2 := Heap.get?_update_self (Obj.mapSeq (·.push (.str y t))) hL rfl
  have e2 : (strValues l).toArray.push (.str y t) = (strValues (l ++ [(y, t)])).toArray := by simp [strValues]
  have h3 : (s.heap.update L (Obj.mapSeq (·.push (.str y t)))).get? L = some { cls := .type "list", data := .seq ((strValues l).toArray.push (.str y t)) _ } := h2
  rw [e2] at h3
  exact hq _ _ ⟨_, _, rfl, fun b o hb eo => (Heap.get?_update_other _ _ (Ne.symm hb)).trans eo⟩ h3

theorem sub_join {R : Result → Shared → Prop} {E : Value → Shared → Prop} {A' : Around} {L : Addr} {x : Str} {l : List (Str × Tok)} {c : Nat} (hL : s.heap.get? L = some { cls := .type "list", data := .seq (strValues l).toArray c }) (hj : JoinOk ⟨#[]⟩ (l.map (·.1)) = true)
    (hq : ∀ t' k, R (.ok (.ret (.str (Txt.join ⟨#[]⟩ (l.map (·.1))) t'))) { s with toks := k }) :
    wpAny (model prog w) A (do
      let joiner ← reSlice x.cps 0 0 0
      let text ← if ((← seqItems? (.ref L)).getD #[]).isEmpty then pure joiner else call (.builtin (if (0 == 0) = true then "str.join" else "bytes.join")) [joiner, .ref L]
      ret text) (Ends1 R (model prog w) A') E s := by
  have e0 : (⟨x.cps.extract 0 0⟩ : Str) = ⟨#[]⟩ := by simp
  refine wpAny_bind ?_
  show wpAny _ _ (mkStr ⟨x.cps.extract 0 0⟩) _ _ _
  rw [e0]
  refine wpAny_mkStr ?_ (by decide +kernel)
  refine wpAny_bind (wpAny_seqItems hL rfl ?_)
  dsimp only [Option.getD]
  cases l with
  | nil =>
    show wpAny _ _ (pure _ >>= _) _ _ _
    exact wpAny_bind (wpAny_pure (wpAny_pure (hq _ _)))
  | cons a b =>
    show wpAny _ _ (call (.builtin "str.join") [.str ⟨#[]⟩ s.toks, .ref L] >>= _) _ _ _
    refine wpAny_bind ?_
    exact SC.join (l := a :: b) (isList_of hL) rfl hj fun t' k => wpAny_pure (hq _ _)

theorem sub_loop {P L : Addr} {code : Array Nat} {x r : Str} {t tr : Tok} {next : Nat → Option (Nat × Nat)} {hb : Heap} (hp : IsPat hb P code) (hL0 : hb.get? L = none) (hf : Finds code x.cps next) (hx : x.cps.size ≤ 1000) :
    ∀ (k n done : Nat) (l : List (Str × Tok)) (c : Nat) (s : Shared), x.cps.size < done + k → done ≤ x.cps.size → (∀ b o, hb.get? b = some o → s.heap.get? b = some o) →
      s.heap.get? L = some { cls := .type "list", data := .seq (strValues l).toArray c } → JoinOk ⟨#[]⟩ (l.map (·.1) ++ subPieces x.cps r next k done) = true → (l.map (·.1) ++ subPieces x.cps r next k done).length ≤ sizeLine →
      codeAny (model prog w) A (.builtin "re.Pattern.sub.loop" (subArgs P L x r t tr n done)) (SubR L s (Txt.join ⟨#[]⟩ (l.map (·.1) ++ subPieces x.cps r next k done))) s
  | 0, n, done, l, c, s, h1, h2, _, _, _, _ => by omega
  | k + 1, n, done, l, c, s, h1, h2, hk, hL, hj, hs => by
    have hkL : ∀ {s' : Shared}, K0 L s s' → ∀ b o, hb.get? b = some o → s'.heap.get? b = some o := fun z b o e => z.get (fun q => by rw [q, hL0] at e; cases e) (hk b o e)
    refine codeAny_builtin entry_sub_loop ?_
    rw [loop_tree, Around.under_plainId plain_sub_loop _]
    refine wpAny_bind (whole_target (hp.keep hk) ?_)
    refine wpAny_bind ?_
    show wpAny _ _ (pure ()) _ _ _
    refine wpAny_pure ?_
    refine wpAny_bind ?_
    show wpAny _ _ (reRunToEnd (forSearch code x.cps 0 done x.cps.size false)) _ _ _
    obtain ⟨m', j, hj1, he, ho⟩ := hf done h2
    have hd : ((done : Int)).toNat = done := rfl
    cases hn : next done with
    | none =>
      rw [hn] at ho
      have ho : m'.outcome = some .failed := ho
      refine toEnd he hj1 (fun q => by rw [ho] at q; cases q) (fun _ => ?_) (fun why q => by rw [ho] at q; cases q)
      unfold subPieces at hj hs ⊢
      rw [hn] at hj hs ⊢
      dsimp only at hj hs ⊢
      by_cases hlt : done < x.cps.size
      · rw [if_pos hlt] at hj hs ⊢
        rw [if_pos (show ((done : Int)).toNat < x.cps.size from hlt)]
        refine wpAny_bind ?_
        show wpAny _ _ (mkStr ⟨x.cps.extract done x.cps.size⟩) _ _ _
        refine wpAny_mkStr ?_ (show (x.cps.extract done x.cps.size).size ≤ sizeLine by rw [Array.size_extract]; exact Nat.le_trans (by omega) (show 1000 ≤ sizeLine by decide +kernel))
        refine wpAny_bind (push_piece hL (by simpa using hs) fun s' c' k' hL' => ?_)
        have el : (l ++ [((⟨x.cps.extract done x.cps.size⟩ : Str), s.toks)]).map (·.1) = l.map (·.1) ++ [⟨x.cps.extract done x.cps.size⟩] := by simp
        rw [← el] at hj ⊢
        exact sub_join (R := SubR L s _) hL' hj fun t' k => ⟨_, rfl, ((K0.toks L s _).trans k').trans (K0.toks L s' k), _, rfl⟩
      · rw [if_neg hlt] at hj hs ⊢
        rw [if_neg (show ¬ ((done : Int)).toNat < x.cps.size from hlt)]
        rw [List.append_nil] at hj hs ⊢
        exact sub_join (R := SubR L s _) hL hj fun t' k => ⟨_, rfl, K0.toks L s k, _, rfl⟩
    | some pe =>
      obtain ⟨p, e⟩ := pe
      rw [hn] at ho
      obtain ⟨ho, o1, o2, o3, o4, o5⟩ := ho
      refine toEnd he hj1 (fun _ => ?_) (fun q => by rw [ho] at q; cases q) (fun why q => by rw [ho] at q; cases q)
      unfold subPieces at hj hs ⊢
      rw [hn] at hj hs ⊢
      dsimp only at hj hs ⊢
      subst o1; subst o2
      have tail : ∀ (l' : List (Str × Tok)) (c' : Nat) (s' : Shared), K0 L s s' → s'.heap.get? L = some { cls := .type "list", data := .seq (strValues l').toArray c' } →
          l'.map (·.1) ++ r :: subPieces x.cps r next k m'.handed = l.map (·.1) ++ ((if done < m'.start then [⟨x.cps.extract done m'.start⟩] else []) ++ r :: subPieces x.cps r next k m'.handed) →
          wpAny (model prog w) A.in1 (do
            updateSeq L (·.push (.str r tr))
            again (.builtin "re.Pattern.sub.loop" ⟨[.ref P, .str x t, .str r tr, rawInt 0, rawInt 0, rawInt (n + 1), rawInt m'.handed, rawInt m'.handed, .bool (m'.handed == m'.start), .ref L, .bool false], []⟩))
            (Ends1 (SubR L s (Txt.join ⟨#[]⟩ (l.map (·.1) ++ ((if done < m'.start then [⟨x.cps.extract done m'.start⟩] else []) ++ r :: subPieces x.cps r next k m'.handed)))) (model prog w) A)
            (fun e s' => (SubR L s (Txt.join ⟨#[]⟩ (l.map (·.1) ++ ((if done < m'.start then [⟨x.cps.extract done m'.start⟩] else []) ++ r :: subPieces x.cps r next k m'.handed)))) (.error e) s') s' := by
        intro l' c' s' k' hL' el
        rw [← el] at hj hs ⊢
        have hb : (m'.handed == m'.start) = false := by simpa using Nat.ne_of_gt o4
        have el2 : l'.map (·.1) ++ r :: subPieces x.cps r next k m'.handed = (l' ++ [(r, tr)]).map (·.1) ++ subPieces x.cps r next k m'.handed := by simp
        rw [hb]
        refine wpAny_bind (push_piece hL' (by rw [el2, List.length_append, List.length_map, List.length_append] at hs; exact Nat.le_trans (Nat.le_add_right _ _) hs) fun s'' c'' k'' hL'' => ?_)
        rw [el2] at hj hs ⊢
        refine wpAny_pure ⟨plainId_quiet plain_sub_loop _, ?_⟩
        refine codeAny_mono (sub_loop hp hL0 hf hx k (n + 1) m'.handed _ c'' s'' (by omega) o5 (hkL (k'.trans k'')) hL'' hj hs) ?_
        rintro res s3 ⟨v, e1, e2, e3⟩
        exact ⟨v, e1, (k'.trans k'').trans e2, e3⟩
      by_cases hlt : done < m'.start
      · rw [if_pos (show ((done : Int)).toNat < m'.start from hlt)]
        refine wpAny_bind ?_
        show wpAny _ _ (mkStr ⟨x.cps.extract done m'.start⟩) _ _ _
        refine wpAny_mkStr ?_ (show (x.cps.extract done m'.start).size ≤ sizeLine by rw [Array.size_extract]; exact Nat.le_trans (by omega) (show 1000 ≤ sizeLine by decide +kernel))
        refine wpAny_bind (push_piece hL (by rw [if_pos hlt] at hs; simp at hs; omega) fun s' c' k' hL' => ?_)
        exact tail _ c' s' ((K0.toks L s _).trans k') hL' (by rw [if_pos hlt]; simp)
      · rw [if_neg (show ¬ ((done : Int)).toNat < m'.start from hlt)]
        exact tail l c s (K0.refl L s) hL (by rw [if_neg hlt]; rfl)
end
end Mine

set_option Elab.async false
set_option linter.unusedVariables false
set_option linter.unusedSimpArgs false
set_option maxRecDepth 100000
namespace Mine
open PySem.Sre PySem.Builtin.Re PySem.Builtin

theorem noCall_str (r : Str) (tr : Tok) : specialOf (.str r tr) "__call__" = pure none := by show typeLookup (.type "str") _ = _; rw [typeLookup_type, builtinLookup_eq_fast]; kernel_rfl
theorem named_sub (id : String) (a b : Value) : reNamed id "sub" ["repl", "string", "count"] 2 [a, b] [] = pure [some a, some b, none] := rfl

section
variable {prog : Program} {w : World} {A : Around} {s : Shared}
theorem sub_spec {P : Addr} {code : Array Nat} {x r : Str} {t tr : Tok} {next : Nat → Option (Nat × Nat)} (hp : IsPat s.heap P code) (hf : Finds code x.cps next) (hx : x.cps.size ≤ 1000) (hr : r.cps.contains 92 = false)
    (hj : JoinOk ⟨#[]⟩ (subPieces x.cps r next (x.cps.size + 1) 0) = true) (hs : (subPieces x.cps r next (x.cps.size + 1) 0).length ≤ sizeLine) :
    wpAny (model prog w) A (call (.builtin "re.Pattern.sub") [.ref P, .str r tr, .str x t]) (fun v s' => Keeps s s' ∧ ∃ t', v = .str (Txt.join ⟨#[]⟩ (subPieces x.cps r next (x.cps.size + 1) 0)) t') (fun _ _ => False) s := by
  refine up (wpAny_call (codeAny_call_builtin slot_sub.plain entry_sub (slot_sub.check _ _ _ _ _ _ _ _ (by obtain ⟨fs, T, ws, n, h1, _⟩ := hp; exact ⟨_, h1, rfl⟩) (args_sub _ _ _) ?_)))
  show wpAny _ _ (reNamed "re.Pattern.sub" "sub" ["repl", "string", "count"] 2 [.str r tr, .str x t] [] >>= _) _ _ _
  rw [named_sub]
  refine wpAny_bind (wpAny_pure ?_)
  show wpAny _ _ (pure (0 : Int) >>= _) _ _ _
  refine wpAny_bind (wpAny_pure ?_)
  show wpAny _ _ (specialOf (.str r tr) "__call__" >>= _) _ _ _
  rw [noCall_str]
  refine wpAny_bind (wpAny_pure ?_)
  show wpAny _ _ (pure (some r) >>= _) _ _ _
  refine wpAny_bind (wpAny_pure ?_)
  show wpAny _ _ ((pure !r.cps.contains 92) >>= _) _ _ _
  rw [hr]
  refine wpAny_bind (wpAny_pure ?_)
  show wpAny _ _ (pure (Value.str r tr, (0 : Int)) >>= _) _ _ _
  refine wpAny_bind (wpAny_pure ?_)
  show wpAny _ _ (holding [.str r tr] (reWholeTarget (.ref P) (.str x t)) >>= _) _ _ _
  refine wpAny_bind (wpAny_holding (whole_target hp ?_))
  show wpAny _ _ (newList [] >>= _) _ _ _
  refine wpAny_bind (wpAny_newList ?_)
  refine wpAny_pure ⟨plainId_quiet plain_sub_loop _, ?_⟩
  have hnone : s.heap.get? s.heap.objs.size = none := by
    cases e : s.heap.get? s.heap.objs.size with
    | none => rfl
    | some o => exact absurd (Heap.lt_size e) (Nat.lt_irrefl _)
  have hpush := Heap.get?_push_size s.heap (o := { cls := .type "list", data := .seq (strValues []).toArray 0 }) rfl
  refine codeAny_mono (sub_loop (hb := s.heap) (L := s.heap.objs.size) (code := code) (k := x.cps.size + 1) (n := 0) (done := 0) (l := []) (c := 0) hp hnone hf hx (s := _) (by omega) (Nat.zero_le _) (fun b o e => Heap.get?_push_of_some _ e) hpush hj hs) ?_
  rintro res s' ⟨v, rfl, ⟨h', tk, rfl, k⟩, t', rfl⟩
  exact ⟨⟨h', tk, rfl, fun b o e => k b o (Nat.ne_of_lt (Heap.lt_size e)) (Heap.get?_push_of_some _ e)⟩, t', rfl⟩
end
end Mine

set_option Elab.async false
set_option linter.unusedVariables false
set_option linter.unusedSimpArgs false
namespace Mine
open PySem.Sre PySem.Builtin.Re PySem.Builtin

theorem drop_getD (text : Array Nat) {s : Nat} (h : s < text.size) : text.toList.drop s = text.getD s 0 :: text.toList.drop (s + 1) := by
  have : s < text.toList.length := by simpa using h
  rw [List.drop_eq_getElem_cons this]
  simp [Array.getD, h]
theorem extract_list (text : Array Nat) (s p : Nat) : (text.extract s p).toList = (text.toList.drop s).take (p - s) := by
  simp [List.extract_eq_take_drop]

theorem pieces_are (text : Array Nat) (r : Str) (next : Nat → Option (Nat × Nat)) (G : Nat → List Nat) (hspan : ∀ s p e, s ≤ text.size → next s = some (p, e) → s ≤ p ∧ p < e ∧ e ≤ text.size)
    (hn : ∀ s, s ≤ text.size → next s = none → G s = text.toList.drop s) (hs : ∀ s p e, s ≤ text.size → next s = some (p, e) → G s = (text.toList.drop s).take (p - s) ++ r.cps.toList ++ G e) :
    ∀ k done, text.size < done + k → done ≤ text.size → (subPieces text r next k done).flatMap (·.cps.toList) = G done ∧ (subPieces text r next k done).length ≤ 2 * (text.size - done) + 1
  | 0, done, h1, h2 => by omega
  | k + 1, done, h1, h2 => by
    unfold subPieces
    cases e : next done with
    | none =>
      rw [hn done h2 e]
      by_cases hlt : done < text.size
      · simp [hlt, List.extract_eq_take_drop]
        rw [List.take_of_length_le]
        simp
      · have : done = text.size := by omega
        subst this
        simp
    | some pe =>
      obtain ⟨p, q⟩ := pe
      obtain ⟨a1, a2, a3⟩ := hspan done p q h2 e
      obtain ⟨i1, i2⟩ := pieces_are text r next G hspan hn hs k q (by omega) a3
      rw [hs done p q h2 e, ← i1]
      by_cases hlt : done < p
      · simp only [hlt, if_true]
        refine ⟨by simp [List.extract_eq_take_drop], ?_⟩
        simp only [List.length_append, List.length_cons, List.length_nil]
        omega
      · have : p = done := by omega
        subst this
        simp only [hlt, if_false]
        refine ⟨by simp, ?_⟩
        simp only [List.length_append, List.length_cons, List.length_nil, List.nil_append]
        omega

theorem glue_list : ∀ (ps : List Str) (a : Array Nat), ((ps.foldl (fun acc p => acc ++ (⟨#[]⟩ : Str).cps ++ p.cps) a)).toList = a.toList ++ ps.flatMap (·.cps.toList)
  | [], a => by simp
  | p :: ps, a => by rw [List.foldl_cons, glue_list ps]; simp
theorem join_list (ps : List Str) : (Txt.join ⟨#[]⟩ ps).cps.toList = ps.flatMap (·.cps.toList) := by
  cases ps with
  | nil => rfl
  | cons p ps =>
    show ((ps.foldl (fun acc p => acc ++ (⟨#[]⟩ : Str).cps ++ p.cps) p.cps)).toList = _
    rw [glue_list]; rfl
theorem len_flat (ps : List Str) : (ps.map (·.length)).sum = (ps.flatMap (·.cps.toList)).length := by
  induction ps with
  | nil => rfl
  | cons p ps ih =>
    rw [List.map_cons, List.sum_cons, List.flatMap_cons, List.length_append, ih]
    show p.cps.size + _ = _
    simp
theorem joinOk_list (ps : List Str) (h : (ps.flatMap (·.cps.toList)).length ≤ 16777216) : JoinOk ⟨#[]⟩ ps = true := by
  unfold JoinOk
  rw [StrLaws.joinTotal, len_flat]
  have : (⟨#[]⟩ : Str).length = 0 := rfl
  rw [this, Nat.mul_zero, Nat.add_zero]
  unfold Builtin.Str.tooLong
  have e : sizeLine = 16777216 := rfl
  simp only [e, gt_iff_lt, Bool.not_eq_true', decide_eq_false_iff_not]
  exact Nat.not_lt.mpr h

/-- every line's end becomes the two signs -/
def nlL : Bool → List Nat → List Nat
  | _, [] => []
  | b, c :: r => if c = 13 then 13 :: 10 :: nlL true r else if c = 10 then (if b = true then nlL false r else 13 :: 10 :: nlL false r) else c :: nlL false r
theorem nl_plain {r : List Nat} (h : r.head? ≠ some 10) : nlL true r = nlL false r := by
  cases r with
  | nil => rfl
  | cons c r =>
    have hc : c ≠ 10 := fun q => h (by rw [q]; rfl)
    rw [nlL, nlL, if_neg hc, if_neg hc]
/-- a dot at a line's start is doubled -/
def dotL : Bool → List Nat → List Nat
  | _, [] => []
  | b, c :: r => if b = true ∧ c = 46 then 46 :: 46 :: dotL false r else c :: dotL (c == 10) r

def next1 (text : Array Nat) (s : Nat) : Option (Nat × Nat) := (nextDot text (text.size - s) s).map fun p => (p, p + 1)
def next2 (text : Array Nat) (s : Nat) : Option (Nat × Nat) := (nextNl text (text.size - s) s).map fun p => (p, nlEnd text p)

theorem nextDot_spec (text : Array Nat) : ∀ (n s p : Nat), nextDot text n s = some p → dotAt text p = true ∧ s ≤ p ∧ p < s + n
  | 0, s, p, h => by cases h
  | n + 1, s, p, h => by
    unfold nextDot at h
    split at h
    · cases h; exact ⟨‹_›, Nat.le_refl _, by omega⟩
    · obtain ⟨a, b, c⟩ := nextDot_spec text n (s + 1) p h
      exact ⟨a, by omega, by omega⟩
theorem nlEnd_spec (text : Array Nat) {p : Nat} (h : p < text.size) : p < nlEnd text p ∧ nlEnd text p ≤ text.size := by
  unfold nlEnd
  by_cases q : text.getD p 0 = 13 ∧ p + 1 < text.size ∧ text.getD (p + 1) 0 = 10
  · rw [if_pos q]; omega
  · rw [if_neg q]; omega

theorem finds1 (text : Array Nat) (h : text.size ≤ 1000) : Finds dotCode text (next1 text) := fun s hs => by
  obtain ⟨m', k, hk, he, ho⟩ := forSearch1 text s hs
  refine ⟨m', k, by omega, he, ?_⟩
  unfold next1
  cases e : nextDot text (text.size - s) s with
  | none => rw [e] at ho; exact ho
  | some p =>
    rw [e] at ho
    obtain ⟨_, b, c⟩ := nextDot_spec text _ _ _ e
    exact ⟨ho.1, ho.2.1, ho.2.2, b, by omega, by omega⟩
theorem finds2 (text : Array Nat) : Finds nlCode text (next2 text) := fun s hs => by
  obtain ⟨m', k, hk, he, ho⟩ := forSearch2 text s hs
  refine ⟨m', k, Nat.le_trans hk (by decide), he, ?_⟩
  unfold next2
  cases e : nextNl text (text.size - s) s with
  | none => rw [e] at ho; exact ho
  | some p =>
    rw [e] at ho
    obtain ⟨_, b, c⟩ := nextNl_spec text _ _ _ e
    have := nlEnd_spec text (p := p) (by omega)
    exact ⟨ho.1, ho.2.1, ho.2.2, b, this.1, this.2⟩

theorem nl_jump (text : Array Nat) : ∀ (n s p : Nat), s + n = text.size → nextNl text n s = some p → nlL false (text.toList.drop s) = (text.toList.drop s).take (p - s) ++ nlL false (text.toList.drop p)
  | 0, s, p, e, h => by cases h
  | n + 1, s, p, e, h => by
    unfold nextNl at h
    split at h
    · cases h; simp
    · rename_i hc
      obtain ⟨_, b, _⟩ := nextNl_spec text _ _ _ h
      rw [drop_getD text (by omega : s < text.size)]
      rw [show p - s = (p - (s + 1)) + 1 by omega, List.take_succ_cons]
      rw [nlL, if_neg (fun q => hc (.inr q)), if_neg (fun q => hc (.inl q)), nl_jump text n (s + 1) p (by omega) h]
      rfl
theorem nl_end (text : Array Nat) : ∀ (n s : Nat), s + n = text.size → nextNl text n s = none → nlL false (text.toList.drop s) = text.toList.drop s
  | 0, s, e, h => by
    have : text.toList.drop s = [] := by apply List.drop_eq_nil_of_le; simp; omega
    rw [this]; rfl
  | n + 1, s, e, h => by
    unfold nextNl at h
    split at h
    · cases h
    · rename_i hc
      rw [drop_getD text (by omega : s < text.size), nlL, if_neg (fun q => hc (.inr q)), if_neg (fun q => hc (.inl q)), nl_end text n (s + 1) (by omega) h]
theorem nl_at (text : Array Nat) {p : Nat} (h : p < text.size) (hc : text.getD p 0 = 10 ∨ text.getD p 0 = 13) : nlL false (text.toList.drop p) = [13, 10] ++ nlL false (text.toList.drop (nlEnd text p)) := by
  rw [drop_getD text h]
  unfold nlEnd
  by_cases h13 : text.getD p 0 = 13
  · rw [nlL, if_pos h13]
    by_cases hn : p + 1 < text.size ∧ text.getD (p + 1) 0 = 10
    · rw [if_pos ⟨h13, hn⟩, drop_getD text hn.1, hn.2]
      rfl
    · rw [if_neg (fun q => hn q.2), nl_plain]
      · rfl
      · intro q
        rcases Nat.lt_or_ge (p + 1) text.size with z | z
        · rw [drop_getD text z] at q
          injection q with q
          exact hn ⟨z, q⟩
        · have : text.toList.drop (p + 1) = [] := by apply List.drop_eq_nil_of_le; simp; omega
          rw [this] at q; cases q
  · rw [nlL, if_neg h13, if_pos (hc.resolve_right h13), if_neg Bool.false_ne_true, if_neg (fun q => h13 q.1)]
    rfl

theorem nl_pieces (text : Array Nat) : (subPieces text ⟨#[13, 10]⟩ (next2 text) (text.size + 1) 0).flatMap (·.cps.toList) = nlL false text.toList ∧ (subPieces text ⟨#[13, 10]⟩ (next2 text) (text.size + 1) 0).length ≤ 2 * text.size + 1 := by
  have := pieces_are text ⟨#[13, 10]⟩ (next2 text) (fun s => nlL false (text.toList.drop s)) (fun s p e hs h => ?_) (fun s hs h => ?_) (fun s p e hs h => ?_) (text.size + 1) 0 (by omega) (Nat.zero_le _)
  · simpa using this
  · unfold next2 at h
    cases e' : nextNl text (text.size - s) s with
    | none => rw [e'] at h; cases h
    | some q =>
      rw [e'] at h; cases h
      obtain ⟨_, b, c⟩ := nextNl_spec text _ _ _ e'
      have := nlEnd_spec text (p := p) (by omega)
      exact ⟨b, this⟩
  · unfold next2 at h
    cases e' : nextNl text (text.size - s) s with
    | none => exact nl_end text _ s (by omega) e'
    | some q => rw [e'] at h; cases h
  · unfold next2 at h
    cases e' : nextNl text (text.size - s) s with
    | none => rw [e'] at h; cases h
    | some q =>
      rw [e'] at h; cases h
      obtain ⟨a, b, c⟩ := nextNl_spec text _ _ _ e'
      show nlL false (text.toList.drop s) = _
      rw [nl_jump text _ s p (by omega) e', nl_at text (by omega) a, List.append_assoc]

def atStart (text : Array Nat) (s : Nat) : Bool := s == 0 || text.getD (s - 1) 0 == 10
theorem dot_jump (text : Array Nat) : ∀ (n s p : Nat), s + n = text.size → nextDot text n s = some p → dotL (atStart text s) (text.toList.drop s) = (text.toList.drop s).take (p - s) ++ dotL (atStart text p) (text.toList.drop p)
  | 0, s, p, e, h => by cases h
  | n + 1, s, p, e, h => by
    unfold nextDot at h
    split at h
    · cases h; simp
    · rename_i hc
      obtain ⟨_, b, _⟩ := nextDot_spec text _ _ _ h
      rw [drop_getD text (by omega : s < text.size)]
      rw [show p - s = (p - (s + 1)) + 1 by omega, List.take_succ_cons]
      rw [dotL, if_neg (fun q => hc (by unfold dotAt; unfold atStart at q; rw [q.1, q.2]; simp; omega))]
      have := dot_jump text n (s + 1) p (by omega) h
      have e2 : atStart text (s + 1) = (text.getD s 0 == 10) := by simp [atStart]
      rw [e2] at this
      rw [this]
      rfl
theorem dot_end (text : Array Nat) : ∀ (n s : Nat), s + n = text.size → nextDot text n s = none → dotL (atStart text s) (text.toList.drop s) = text.toList.drop s
  | 0, s, e, h => by
    have : text.toList.drop s = [] := by apply List.drop_eq_nil_of_le; simp; omega
    rw [this]; rfl
  | n + 1, s, e, h => by
    unfold nextDot at h
    split at h
    · cases h
    · rename_i hc
      rw [drop_getD text (by omega : s < text.size), dotL, if_neg (fun q => hc (by unfold dotAt; unfold atStart at q; rw [q.1, q.2]; simp; omega))]
      have := dot_end text n (s + 1) (by omega) h
      have e2 : atStart text (s + 1) = (text.getD s 0 == 10) := by simp [atStart]
      rw [e2] at this
      rw [this]
theorem dot_pieces (text : Array Nat) : (subPieces text ⟨#[46, 46]⟩ (next1 text) (text.size + 1) 0).flatMap (·.cps.toList) = dotL true text.toList ∧ (subPieces text ⟨#[46, 46]⟩ (next1 text) (text.size + 1) 0).length ≤ 2 * text.size + 1 := by
  have := pieces_are text ⟨#[46, 46]⟩ (next1 text) (fun s => dotL (atStart text s) (text.toList.drop s)) (fun s p e hs h => ?_) (fun s hs h => ?_) (fun s p e hs h => ?_) (text.size + 1) 0 (by omega) (Nat.zero_le _)
  · simpa [atStart] using this
  · unfold next1 at h
    cases e' : nextDot text (text.size - s) s with
    | none => rw [e'] at h; cases h
    | some q =>
      rw [e'] at h; cases h
      obtain ⟨_, b, c⟩ := nextDot_spec text _ _ _ e'
      exact ⟨b, by omega, by omega⟩
  · unfold next1 at h
    cases e' : nextDot text (text.size - s) s with
    | none => exact dot_end text _ s (by omega) e'
    | some q => rw [e'] at h; cases h
  · unfold next1 at h
    cases e' : nextDot text (text.size - s) s with
    | none => rw [e'] at h; cases h
    | some q =>
      rw [e'] at h; cases h
      obtain ⟨a, b, c⟩ := nextDot_spec text _ _ _ e'
      show dotL (atStart text s) (text.toList.drop s) = _
      rw [dot_jump text _ s p (by omega) e']
      unfold dotAt at a
      simp only [Bool.and_eq_true, decide_eq_true_eq, beq_iff_eq] at a
      have e3 : atStart text p = true := by unfold atStart; exact a.1.1
      have e4 : atStart text (p + 1) = false := by simp [atStart, a.2]
      rw [e3, e4, drop_getD text a.1.2, a.2, dotL, if_pos ⟨rfl, rfl⟩, List.append_assoc]
      rfl
end Mine

set_option Elab.async false
set_option linter.unusedVariables false
set_option linter.unusedSimpArgs false
namespace Mine
open PySem.Sre PySem.Builtin.Re PySem.Builtin

theorem nlL_len : ∀ (b : Bool) (l : List Nat), (nlL b l).length ≤ 2 * l.length
  | _, [] => Nat.le_refl _
  | b, c :: r => by
    have h1 := nlL_len true r
    have h2 := nlL_len false r
    unfold nlL
    split
    · simp only [List.length_cons]; omega
    · split
      · split
        · simp only [List.length_cons]; omega
        · simp only [List.length_cons]; omega
      · simp only [List.length_cons]; omega
theorem dotL_len : ∀ (b : Bool) (l : List Nat), (dotL b l).length ≤ 2 * l.length
  | _, [] => Nat.le_refl _
  | b, c :: r => by
    have h1 := dotL_len false r
    have h2 := dotL_len (c == 10) r
    unfold dotL
    split
    · simp only [List.length_cons]; omega
    · simp only [List.length_cons]; omega
theorem str_ext {x y : Str} (h : x.cps.toList = y.cps.toList) : x = y := by
  cases x with | mk a => cases y with | mk b => cases a; cases b; simp at h; subst h; rfl

section
variable {prog : Program} {w : World} {h₀ : Heap} {C : Cx} {ρ : Vs}
theorem ev_sub {o e1 e2 : Expr} {apos pos : Pos} {P : Addr} {code : Array Nat} {next : Array Nat → Nat → Option (Nat × Nat)} {r x y : Str} (hv : EvV prog w h₀ C ρ o (.ref P)) (hp : IsPat h₀ P code) (h1 : EvD prog w h₀ C ρ e1 (.str r)) (h2 : EvD prog w h₀ C ρ e2 (.str x)) (hf : Finds code x.cps (next x.cps)) (hx : x.cps.size ≤ 1000) (hr : r.cps.contains 92 = false)
    (hy : (subPieces x.cps r (next x.cps) (x.cps.size + 1) 0).flatMap (·.cps.toList) = y.cps.toList) (hl : (subPieces x.cps r (next x.cps) (x.cps.size + 1) 0).length ≤ 2 * x.cps.size + 1) (hyl : y.cps.toList.length ≤ 100000)
    (hbase : ∀ env, attributeBase o (Str.ofString "sub") env (eval o env) = eval o env := by intro _; rfl) (hline : (apos.endLine == pos.line) = true := by rfl)
    (hfew : ∀ env, ((backTo pos (starEach [e1, e2] env)).all (fun x => !x.1) && (backToKw pos (keywordEach [] env)).all (fun x => x.1.isSome) && decide (([e1, e2] : List Expr).length + ([] : List Keyword).length + (if ([] : List Keyword).isEmpty then 0 else 1) < 30)) = true := by intro _; rfl)
    (he1 : ∀ env, starEach [e1, e2] env = (false, eval e1 env) :: starEach [e2] env := by intro _; rfl) (he2 : ∀ env, starEach [e2] env = (false, eval e2 env) :: starEach [] env := by intro _; rfl)
    (hplain : ∀ pos env, (backTo pos (starEach [e1, e2] env)).any (·.1) = false := by intro _ _; rfl) :
    EvD prog w h₀ C ρ (.Call (.Attribute o (Str.ofString "sub") apos) [e1, e2] [] pos) (.str y) := fun s H => by
  refine wpAny_Call_method (T := "re.Pattern") (id := "re.Pattern.sub") (hbase _) (hfew _) hline pattern_attrs slot_sub type_sub (hv.then H fun s₁ k₁ H₁ => ?_)
  have hp₁ := hp.keep H₁.top
  have hp' := hp₁
  obtain ⟨fs, T, ws, n, g1, _⟩ := hp'
  refine ⟨⟨_, g1, rfl⟩, (fun a q => by cases q; exact ⟨_, g1, rfl⟩), Calls.callWith_builtin (hplain _ _) ?_⟩
  have hargs : EvsD prog w h₀ C ρ [e1, e2] [.str r, .str x] := evs_cons h1 (evs_cons h2 evs_nil he2) he1
  have key : wpAny (model prog w) C.A (spliced (backTo pos (starEach [e1, e2] C.env))) (fun vs s₂ => wpAny (model prog w) C.A (call (.builtin "re.Pattern.sub") ([.ref P] ++ vs) []) (fun v s' => Keeps s s' ∧ Is C.X s'.heap v (.str y)) no s₂) no s₁ :=
    hargs.then H₁ fun vs s₂ k₂ H₂ i₂ => by
      obtain ⟨v, u, rfl, i1, i2⟩ := i₂.two
      obtain ⟨tr, rfl⟩ := i1.str_inv
      obtain ⟨t, rfl⟩ := i2.str_inv
      refine wpAny_mono (sub_spec (hp.keep H₂.top) hf hx hr (joinOk_list _ (by rw [hy]; omega)) (by rw [sizeLine_eq]; omega)) (fun v s₃ z => ⟨keeps_trans k₁ (keeps_trans k₂ z.1), ?_⟩) fun _ _ z => z
      obtain ⟨t', rfl⟩ := z.2
      have e : Txt.join ⟨#[]⟩ (subPieces x.cps r (next x.cps) (x.cps.size + 1) 0) = y := str_ext (by rw [join_list, hy])
      rw [e]
      exact .str _ _
  rw [he1] at key ⊢
  exact Calls.evalArgs_plain key

/-- what is sent -/
def quoted (x : Str) : Str := ⟨(dotL true (nlL false x.cps.toList)).toArray⟩
end
end Mine

set_option Elab.async false
set_option maxRecDepth 100000
set_option maxHeartbeats 8000000
namespace Mine
open_top hd for PySem.Challenge.rw_rl0057_01
end Mine

set_option Elab.async false
set_option linter.unusedVariables false
set_option linter.unusedSimpArgs false
set_option maxRecDepth 100000
namespace Mine
open PySem.Challenge

/-! small steps by themselves -/
local macro_rules | `(tactic| walk_at "m mem") => `(tactic| first
  | with_reducible exact put_head
  | with_reducible exact List.mem_cons_self
  | (with_reducible refine put_tail (by decide +kernel) ?_; walk_at "m mem")
  | (with_reducible refine List.mem_cons_of_mem _ ?_; walk_at "m mem")
  | (with_reducible refine cap_mem (by kernel_rfl) ?_; walk_at "m mem"))

noncomputable abbrev KK (w : World) : Frag := hd.heap_39 w.params
def fdAt (K : Frag) (f : Addr) : Option FuncData := match K.lookup f with
  | some ⟨_, _, .func fd, _⟩ => some fd
  | _ => none
def bdAt (K : Frag) (f : Addr) : List Stmt := match fdAt K f with
  | some fd => (match fd.body with | .stmts b => b | _ => [])
  | _ => []
def scAt (K : Frag) (f : Addr) : Scope := match fdAt K f with
  | some fd => fd.scope
  | _ => default
def fnAtOk (K : Frag) (f : Addr) (xs : List Str) : Bool := match fdAt K f with
  | some fd => codeIn K fd.code fd.qualname && (match fd.body with | .stmts _ => true | _ => false) && fd.closure.isEmpty && fd.globals == mainGlobals && fd.builtins == builtinsNs && fnOk fd.scope xs
  | _ => false
theorem fdAt_in {K : Frag} {h : Heap} {f : Addr} {fd : FuncData} (KX : K.In h) (e : fdAt K f = some fd) : ∃ ob, h.get? f = some ob ∧ ob.data = .func fd := by
  unfold fdAt at e
  split at e
  · rename_i q; cases e; exact ⟨_, KX _ _ q, rfl⟩
  · cases e

section
variable {prog : Program} {w : World} {h₀ : Heap} {mg mb : Str → Option Value}

theorem fn_K {K : Frag} {f : Addr} {n : Nat} {ds : List D} {d : D} (xs : List Str) (KX : K.In h₀) (lim : h₀.NoLimit) (hok : fnAtOk K f xs = true) (hlen : xs.length = ds.length) (hbind : ∀ fd, fdAt K f = some fd → ∀ vs : List Value, vs.length = xs.length → bindArgs fd ⟨vs, []⟩ = pure (xs.zip vs))
    (h : ∀ C, InFn C (scAt K f) n → ExsD prog w h₀ C (xs.zip ds) (bdAt K f) (.ret d)) : FnD prog w h₀ f (n + 1) ds d := by
  unfold fnAtOk at hok
  split at hok
  · rename_i fd e
    obtain ⟨ob, ho, hd⟩ := fdAt_in KX e
    simp only [Bool.and_eq_true, beq_iff_eq, List.isEmpty_iff] at hok
    obtain ⟨⟨⟨⟨⟨a1, a2⟩, a3⟩, a4⟩, a5⟩, a6⟩ := hok
    have hsc : scAt K f = fd.scope := by unfold scAt; rw [e]
    have hb : fd.body = .stmts (bdAt K f) := by
      unfold bdAt; rw [e]
      dsimp only
      split at a2
      · rename_i q; rw [q]
      · cases a2
    rw [hsc] at h
    exact fn_intro ho hd (codeRec_of KX a1) lim hb a3 a4 a5 hlen (hbind fd e) a6 h
  · cases hok

def cmpI (x y : Str) : Int := (if decide (y.cps.toList < x.cps.toList) then 1 else 0) - (if decide (x.cps.toList < y.cps.toList) then 1 else 0)

theorem strcoll_fn (KX : (KK w).In h₀) (lim : h₀.NoLimit) (x y : Str) : FnD prog w h₀ 111 1 [.str x, .str y] (.int (cmpI x y)) := by
  refine fn_K ["a", "b"] KX lim (by kernel_rfl) rfl ?_ ?_
  · intro fd e vs hl
    match vs, hl with
    | [u, v], _ => cases e; rfl
  · intro C I
    show ExsD _ _ _ _ [("a", .str x), ("b", .str y)] _ _
    conv => arg 6; whnf
    refine exs_ret (ex_ret (ev_bin (ev_cmp (ev_name ?_) (ev_name ?_) cmp_gt_str) (ev_cmp (ev_name ?_) (ev_name ?_) cmp_lt_str) bin_sub_bool))
    all_goals walk_at "m mem"

theorem EvV.toD {C : Cx} {ρ : Vs} {e : Expr} {v : Value} {d : D} (h : EvV prog w h₀ C ρ e v) (hi : ∀ X h, Is X h v d) : EvD prog w h₀ C ρ e d := fun s H =>
  wpAny_mono (h s H) (fun u s' z => ⟨z.1, by rw [z.2]; exact hi _ _⟩) fun _ _ z => z
def patIn (K : Frag) (P : Addr) (code : List Nat) : Bool := match K.lookup P with
  | some ⟨.type c, none, .fields fs, sl⟩ => c == "re.Pattern" && sl.size == 0 && Builtin.Re.reRawNat (fs.getD 2 .none) == 0 && Builtin.Re.reRawNat (fs.getD 6 .none) == 0 && (match fs.getD 5 .none with
    | .ref T => (match K.lookup T with
      | some ⟨.type c2, none, .seq ws _, sl2⟩ => c2 == "tuple" && sl2.size == 0 && ((ws.map Builtin.Re.reRawOf).map (·.toNat)).toList == code
      | _ => false)
    | _ => false)
  | _ => false
theorem isPat_of {K : Frag} {h : Heap} {P : Addr} {code : Array Nat} (KX : K.In h) (x : patIn K P code.toList = true) : IsPat h P code := by
  unfold patIn at x
  split at x
  · rename_i c fs sl hg
    simp only [Bool.and_eq_true, beq_iff_eq, Array.size_eq_zero_iff] at x
    obtain ⟨⟨⟨⟨rfl, rfl⟩, h3⟩, h4⟩, hT⟩ := x
    split at hT
    · rename_i T hf
      split at hT
      · rename_i c2 ws n sl2 hg2
        simp only [Bool.and_eq_true, beq_iff_eq, Array.size_eq_zero_iff] at hT
        obtain ⟨⟨rfl, rfl⟩, h6⟩ := hT
        exact ⟨fs, T, ws, n, KX _ _ hg, hf, h3, h4, KX _ _ hg2, Array.toList_inj.mp h6⟩
      · cases hT
    · cases hT
  · cases x

theorem quotedata_fn (KX : (KK w).In h₀) (lim : h₀.NoLimit) (G : h₀.Ns mainGlobals mg) (x : Str) (hx : x.cps.size ≤ 400) : FnD prog w h₀ 135 1 [.str x] (.str (quoted x)) := by
  have p1 : IsPat h₀ 123 dotCode := isPat_of KX (by kernel_rfl)
  have p2 : IsPat h₀ 128 nlCode := isPat_of KX (by kernel_rfl)
  have m1 : mg "_twin_re_1" = some (.ref 123) := mg_of KX G (by kernel_rfl)
  have m2 : mg "_twin_re_2" = some (.ref 128) := mg_of KX G (by kernel_rfl)
  have m3 : mg "CRLF" = some (.str ⟨#[13, 10]⟩ 471) := mg_of KX G (by kernel_rfl)
  refine fn_K ["data"] KX lim (by kernel_rfl) rfl ?_ ?_
  · intro fd e vs hl
    match vs, hl with
    | [u], _ => cases e; rfl
  · intro C I
    show ExsD _ _ _ _ [("data", .str x)] _ _
    conv => arg 6; whnf
    have l2 : (nlL false x.cps.toList).length ≤ 800 := Nat.le_trans (nlL_len _ _) (by rw [Array.length_toList]; omega)
    have l3 := dotL_len true (nlL false x.cps.toList)
    refine exs_ret (ex_ret (ev_sub (next := next1) (x := ⟨(nlL false x.cps.toList).toArray⟩) (ev_glob G m1 I.scp (by kernel_rfl)) p1 ev_str
      (ev_sub (next := next2) (x := x) (ev_glob G m2 I.scp (by kernel_rfl)) p2 (r := ⟨#[13, 10]⟩) ?_ (ev_name ?_) (finds2 _) (by omega) (by decide +kernel) (nl_pieces x.cps).1 (nl_pieces x.cps).2 (by simp; omega)) (finds1 _ ?_) ?_ (by decide +kernel) (dot_pieces _).1 (dot_pieces _).2 ?_))
    · exact EvV.toD (ev_glob G m3 I.scp (by kernel_rfl)) fun _ _ => .str _ _
    · walk_at "m mem"
    · simp; omega
    · simp; omega
    · show (dotL true (nlL false x.cps.toList)).toArray.toList.length ≤ 100000
      simp; omega
end
end Mine

set_option Elab.async false
set_option linter.unusedVariables false
set_option linter.unusedSimpArgs false
set_option maxRecDepth 100000
namespace Mine
open PySem.Challenge

local macro_rules | `(tactic| walk_at "m mem") => `(tactic| first
  | with_reducible exact put_head
  | with_reducible exact List.mem_cons_self
  | (with_reducible refine put_tail (by decide +kernel) ?_; walk_at "m mem")
  | (with_reducible refine List.mem_cons_of_mem _ ?_; walk_at "m mem")
  | (with_reducible refine cap_mem (by kernel_rfl) ?_; walk_at "m mem"))
theorem allIn_nil {ρ : Vs} : ∀ p ∈ ([] : Vs), p ∈ ρ := fun p hp => nomatch hp
theorem allIn_cons {ρ l : Vs} {a : Str × D} (h : a ∈ ρ) (r : ∀ p ∈ l, p ∈ ρ) : ∀ p ∈ a :: l, p ∈ ρ := fun p hp => by
  rcases List.mem_cons.mp hp with rfl | hp
  · exact h
  · exact r p hp
local macro_rules | `(tactic| walk_at "m sub") => `(tactic| first
  | with_reducible exact allIn_nil
  | (with_reducible refine allIn_cons (by walk_at "m mem") ?_; walk_at "m sub"))

section
variable {prog : Program} {w : World} {h₀ : Heap} {mg mb : Str → Option Value} {C : Cx} {ρ : Vs}

theorem iadd {a b : Int} : ∀ va vb s, Sat h₀ C ρ s → Is C.X s.heap va (.int a) → Is C.X s.heap vb (.int b) → wpAny (model prog w) C.A (inplaceOp .Add va vb) (fun v s' => Keeps s s' ∧ Is C.X s'.heap v (.int (a + b))) no s := fun va vb s H ia ib => by
  obtain ⟨t, rfl⟩ := ia.int_inv; obtain ⟨u, rfl⟩ := ib.int_inv
  exact PyProof.Rows.iadd_int ⟨keeps_toks s _, .int _ _⟩
theorem isub {a b : Int} : ∀ va vb s, Sat h₀ C ρ s → Is C.X s.heap va (.int a) → Is C.X s.heap vb (.int b) → wpAny (model prog w) C.A (inplaceOp .Sub va vb) (fun v s' => Keeps s s' ∧ Is C.X s'.heap v (.int (a - b))) no s := fun va vb s H ia ib => by
  obtain ⟨t, rfl⟩ := ia.int_inv; obtain ⟨u, rfl⟩ := ib.int_inv
  exact isub_int ⟨keeps_toks s _, .int _ _⟩

theorem part_some {e : Expr} {k : Int} (h : EvD prog w h₀ C ρ e (.int k)) : PartD prog w h₀ C ρ (some e) (some k) := h
theorem part_none : PartD prog w h₀ C ρ none none := trivial
theorem wh_count {t : Expr} {body : List Stmt} {o : Out} (r : Nat → Vs) (n : Nat) (h0 : WhD prog w h₀ C (r n) t body o) (hs : ∀ i, i < n → WhD prog w h₀ C (r (i + 1)) t body o → WhD prog w h₀ C (r i) t body o) : WhD prog w h₀ C (r 0) t body o := by
  have : ∀ j i, i + j = n → WhD prog w h₀ C (r i) t body o := by
    intro j
    induction j with
    | zero => intro i hi; rw [show i = n by omega]; exact h0
    | succ j ih => intro i hi; exact hs i (by omega) (ih (i + 1) (by omega))
  exact this n 0 (by omega)
theorem clip_nat (n i : Nat) : clipAt n (i : Int) = min i n := by
  unfold clipAt
  rw [if_neg (by omega)]
  omega
def padded (p : Nat) (c : Nat) (t : List Nat) : Str := ⟨(List.replicate p 32 ++ c :: t).toArray⟩

theorem strip_fn (KX : (KK w).In h₀) (lim : h₀.NoLimit) (G : h₀.Ns mainGlobals mg) (B : h₀.Ns builtinsNs mb) (hlen : mb "len" = some (.builtin "len")) (p k c : Nat) (t : List Nat) (hc : c ≠ 32) (ht : (c :: t).getLast? ≠ some 32) (hsz : p + t.length ≤ 1000) :
    FnD prog w h₀ 118 1 [.str (padded p c t), .int k] (.str (padded (p - min k p) c t)) := by
  have m1 : mg "len" = none := mg_none_of KX G (by kernel_rfl)
  refine fn_K ["s", "amount"] KX lim (by kernel_rfl) rfl ?_ ?_
  · intro fd e vs hl
    match vs, hl with
    | [u, v], _ => cases e; rfl
  · intro C I
    show ExsD _ _ _ _ [("s", .str (padded p c t)), ("amount", .int k)] _ _
    conv => arg 6; whnf
    refine exs_cons (ex_assign ev_int (I.sto _ (by kernel_rfl))) ?_
    refine exs_cons (ρ' := [("s", .str (padded p c t)), ("amount", .int (k - min k p : Nat)), ("lpos", .int (min k p : Nat))]) (ex_while ?_) ?_
    · have hat : ∀ i, i < p → (padded p c t).cps[i]? = some 32 := fun i hi => by
        show (List.replicate p 32 ++ c :: t).toArray[i]? = _
        rw [List.getElem?_toArray, List.getElem?_append_left (by simpa using hi), List.getElem?_replicate, if_pos hi]
      have hatp : (padded p c t).cps[p]? = some c := by
        show (List.replicate p 32 ++ c :: t).toArray[p]? = _
        rw [List.getElem?_toArray, List.getElem?_append_right (by simp)]; simp
      refine WhD.sub (wh_count (fun i => [("s", .str (padded p c t)), ("amount", .int (k - i : Nat)), ("lpos", .int i)]) (min k p) (wh_done ?_) fun i hi ih => ?_) ?_
      · by_cases hk : k ≤ p
        · exact (tr_and2 (b := false) (tr_int (ev_name (by walk_at "m mem"))) fun q => absurd q (by simp; omega)).eq (Bool.and_false _)
        · have e : min k p = p := by omega
          rw [e]
          refine (tr_and2 (b := false) (tr_int (ev_name (by walk_at "m mem"))) fun _ => (tr_cmp (ev_item_str (c := c) (ev_name (by walk_at "m mem")) (ev_name (by walk_at "m mem")) (by omega) (by omega) hatp) ev_str cmp_eq_str).eq ?_).eq (Bool.and_false _)
          have : ((⟨#[c]⟩ : Str) == " ") = false := by
            rw [beq_eq_false_iff_ne]
            intro q
            have q2 := congrArg (fun z : Str => z.cps.toList) q
            have q3 : [c] = [32] := q2
            injection q3 with q4 _
            exact hc q4
          exact this
      · refine wh_turn ((tr_and2 (b := true) (tr_int (ev_name (by walk_at "m mem"))) fun _ => (tr_cmp (ev_item_str (c := 32) (ev_name (by walk_at "m mem")) (ev_name (by walk_at "m mem")) (by omega) (by omega) (hat i (by omega))) ev_str cmp_eq_str).eq rfl).eq ?_)
          (exs_cons (ex_aug (by walk_at "m mem") ev_int (I.sto _ (by kernel_rfl)) iadd) (exs_cons (ex_aug (by walk_at "m mem") ev_int (I.sto _ (by kernel_rfl)) isub) exs_nil)) (WhD.sub ih ?_)
        · simp; omega
        · have e1 : ((k - i : Nat) : Int) - 1 = ((k - (i + 1) : Nat) : Int) := by omega
          have e2 : (i : Int) + 1 = ((i + 1 : Nat) : Int) := by omega
          rw [e1, e2]
          walk_at "m sub"
      · change ∀ q ∈ ([("s", D.str (padded p c t)), ("amount", D.int k), ("lpos", D.int 0)] : Vs), q ∈ (_ : Vs)
        walk_at "m sub"
    have hL : (padded p c t).length = p + t.length + 1 := by show (List.replicate p 32 ++ c :: t).toArray.size = _; simp; omega
    refine exs_cons (ex_assign (ev_bin (ev_callB (ev_bi G m1 B hlen I.scp (by kernel_rfl)) (evs_cons (ev_name (by walk_at "m mem")) evs_nil) (bi_len_str (by rw [hL]; omega))) ev_int bin_sub_int) (I.sto _ (by kernel_rfl))) ?_
    rw [hL]
    refine exs_cons (ex_while (wh_done ((tr_and2 (b := false) (tr_int (ev_name (by walk_at "m mem"))) fun _ => (tr_cmp (ev_item_str (c := (c :: t).getLast (by simp)) (ev_name (by walk_at "m mem")) (ev_name (by walk_at "m mem")) (by omega) (by omega) ?_) ev_str cmp_eq_str).eq ?_).eq (Bool.and_false _)))) ?_
    · show (List.replicate p 32 ++ c :: t).toArray[(((p + t.length + 1 : Nat) : Int) - 1).toNat]? = _
      have e : (((p + t.length + 1 : Nat) : Int) - 1).toNat = (List.replicate p 32 ++ c :: t).length - 1 := by simp; omega
      rw [e, List.getElem?_toArray, ← List.getLast?_eq_getElem?, List.getLast?_append, List.getLast?_eq_some_getLast (by simp : c :: t ≠ [])]
      rfl
    · rw [List.getLast?_eq_some_getLast (by simp : c :: t ≠ [])] at ht
      have hne : (c :: t).getLast (by simp) ≠ 32 := fun q => ht (by rw [q])
      have : ((⟨#[(c :: t).getLast (by simp)]⟩ : Str) == " ") = false := by
        rw [beq_eq_false_iff_ne]
        intro q
        have q2 := congrArg (fun z : Str => z.cps.toList) q
        have q3 : [(c :: t).getLast (by simp)] = [32] := q2
        injection q3 with q4 _
        exact hne q4
      exact this
    refine exs_ret (ex_ret ((ev_slice_str (ev_name (by walk_at "m mem")) (part_some (ev_name (by walk_at "m mem"))) (part_some (ev_bin (ev_name (by walk_at "m mem")) ev_int bin_add_int)) ?_).eq ?_))
    · rw [hL, sizeLine_eq]; omega
    · refine congrArg D.str (str_ext ?_)
      show sliceL (List.replicate p 32 ++ c :: t) (some ((min k p : Nat) : Int)) (some (((p + t.length + 1 : Nat) : Int) - 1 + 1)) = List.replicate (p - min k p) 32 ++ c :: t
      unfold sliceL
      have h1 : clipAt (List.replicate p 32 ++ c :: t).length ((min k p : Nat) : Int) = min k p := by rw [clip_nat]; simp
      have h2 : clipAt (List.replicate p 32 ++ c :: t).length (((p + t.length + 1 : Nat) : Int) - 1 + 1) = (List.replicate p 32 ++ c :: t).length := by
        rw [show (((p + t.length + 1 : Nat) : Int) - 1 + 1) = ((p + t.length + 1 : Nat) : Int) by omega, clip_nat]; simp; omega
      show (List.drop (clipAt _ _) _).take (clipAt _ _ - clipAt _ _) = _
      rw [h1, h2, List.take_of_length_le (by simp), List.drop_append_of_le_length (by simp; omega), List.drop_replicate]
end
end Mine

set_option Elab.async false
set_option linter.unusedVariables false
set_option linter.unusedSimpArgs false
set_option maxRecDepth 100000
namespace Mine
open PySem.Challenge

local macro_rules | `(tactic| walk_at "m mem") => `(tactic| first
  | with_reducible exact put_head
  | with_reducible exact List.mem_cons_self
  | (with_reducible refine put_tail (by decide +kernel) ?_; walk_at "m mem")
  | (with_reducible refine List.mem_cons_of_mem _ ?_; walk_at "m mem")
  | (with_reducible refine cap_mem (by kernel_rfl) ?_; walk_at "m mem"))
local macro_rules | `(tactic| walk_at "m sub") => `(tactic| first
  | with_reducible exact allIn_nil
  | (with_reducible refine allIn_cons (by walk_at "m mem") ?_; walk_at "m sub"))

section
variable {prog : Program} {w : World} {h₀ : Heap} {mg mb : Str → Option Value} {C : Cx} {ρ : Vs} {K : Frag} {c : Addr}

/-! the body of a class's __init__ -/
def IniD (prog : Program) (w : World) (h₀ : Heap) (C : Cx) (c x dx : Addr) (ρ : Vs) (ns : List Str) (vs : List D) (sts : List Stmt) (ns' : List Str) (vs' : List D) : Prop :=
  ∀ s, Sat h₀ C ρ s → InstS C c x dx ns vs s →
    wpAny (model prog w) C.A (execs sts C.env) (fun f s' => f = .next ∧ KeepsW (fun a => a = dx ∨ C.W a) s s' ∧ InstS C c x dx ns' vs' s') no s
theorem ini_nil {x dx : Addr} {ns : List Str} {vs : List D} : IniD prog w h₀ C c x dx ρ ns vs [] ns vs := fun s H i => wpAny_execs_nil ⟨rfl, keepsW_refl _ s, i⟩
theorem ini_ex {x dx : Addr} {ns ns' : List Str} {vs vs' : List D} {st : Stmt} {rest : List Stmt} {ρ' : Vs} (o : Owns h₀ C x dx) (h : ExD prog w h₀ C ρ st (.next ρ')) (hr : IniD prog w h₀ C c x dx ρ' ns vs rest ns' vs') :
    IniD prog w h₀ C c x dx ρ ns vs (st :: rest) ns' vs' := fun s H i => by
  refine wpAny_execs_cons (wpAny_mono (h s H) (fun f s₁ z => ?_) fun _ _ z => z)
  obtain ⟨k₁, rfl, H₁⟩ := z
  exact wpAny_mono (hr s₁ H₁ (i.keepsW H.good o k₁)) (fun f s₂ z => ⟨z.1, keepsW_trans (keepsW_mono (fun a q => .inr q) k₁) z.2.1, z.2.2⟩) fun _ _ z => z
theorem ini_attr {x dx : Addr} {ns ns' : List Str} {vs vs' : List D} {self name : Str} {p ap pos : Pos} {e : Expr} {d : D} {rest : List Stmt} (o : Owns h₀ C x dx) (KX : K.In h₀) (ok : ClsOk K c)
    (hself : EvV prog w h₀ C ρ (.Name self p) (.ref x)) (he : EvD prog w h₀ C ρ e d) (hr : IniD prog w h₀ C c x dx ρ (ns ++ [name]) (vs ++ [d]) rest ns' vs') (hn : name ∉ ns) (ht : takerIn K c name = some none) (hz : ns.length < 1000)
    (hs : swapsWith e (some (.Attribute (.Name self p) name ap)) pos.line C.env = pure false := by rfl) :
    IniD prog w h₀ C c x dx ρ ns vs (.Assign [.Attribute (.Name self p) name ap] e pos :: rest) ns' vs' := fun s H i => by
  refine wpAny_execs_cons (st_attr H KX ok o i hself he hn ht hz (fun s₁ H₁ k₁ i₁ => ?_) hs)
  exact wpAny_mono (hr s₁ H₁ i₁) (fun f s₂ z => ⟨z.1, keepsW_trans k₁ z.2.1, z.2.2⟩) fun _ _ z => z
theorem ini_for {x dx : Addr} {ns ns' : List Str} {vs vs' : List D} {target iter : Expr} {body : List Stmt} {pos : Pos} {src : D} {ds : List D} {ρ' : Vs} {rest : List Stmt} (o : Owns h₀ C x dx)
    (hs : ∀ s, Sat h₀ C ρ s → InstS C c x dx ns vs s → wpAny (model prog w) C.A (eval iter C.env) (fun v s' => Keeps s s' ∧ Is C.X s'.heap v src) no s) (hi : IterD src ds) (h : ForD prog w h₀ C ρ target body ds (.next ρ'))
    (hr : IniD prog w h₀ C c x dx ρ' ns vs rest ns' vs') (hfold : ∀ env x, foldedSetIterable iter env x = pure x := by intro _ _; rfl) :
    IniD prog w h₀ C c x dx ρ ns vs (.For target iter body [] pos :: rest) ns' vs' := fun s H i => by
  refine wpAny_execs_cons (wpAny_mono (ex_for_at H (hs s H i) hi h hfold) (fun f s₁ z => ?_) fun _ _ z => z)
  obtain ⟨k₁, rfl, H₁⟩ := z
  exact wpAny_mono (hr s₁ H₁ (i.keepsW H.good o k₁)) (fun f s₂ z => ⟨z.1, keepsW_trans (keepsW_mono (fun a q => .inr q) k₁) z.2.1, z.2.2⟩) fun _ _ z => z

/-- a class of the file is called -/
theorem new_K {K : Frag} {fI : Addr} {n : Nat} {ds : List D} {ns : List Str} {vs' : List D} (xs : List Str) (KX : K.In h₀) (lim : h₀.NoLimit) (hm : makesIn K c = true) (hi : findIn K (.ref c) "__init__" = some (some (.ref fI))) (hfn : typeIn K (.ref fI) = some (.type "function"))
    (hok : fnAtOk K fI xs = true) (hlen : xs.length = ds.length + 1) (hbind : ∀ fd, fdAt K fI = some fd → ∀ vs : List Value, vs.length = xs.length → bindArgs fd ⟨vs, []⟩ = pure (xs.zip vs))
    (h : ∀ C x dx, InFn C (scAt K fI) n → Owns h₀ C x dx → IniD prog w h₀ C c x dx (xs.zip (.raw (.ref x) :: ds)) [] [] (bdAt K fI) ns vs') : FnD prog w h₀ c (n + 2) ds (.obj c ns vs') := by
  unfold fnAtOk at hok
  split at hok
  · rename_i fd e
    obtain ⟨ob, ho, hd⟩ := fdAt_in KX e
    simp only [Bool.and_eq_true, beq_iff_eq, List.isEmpty_iff] at hok
    obtain ⟨⟨⟨⟨⟨a1, a2⟩, a3⟩, a4⟩, a5⟩, a6⟩ := hok
    have hsc : scAt K fI = fd.scope := by unfold scAt; rw [e]
    have hb : fd.body = .stmts (bdAt K fI) := by
      unfold bdAt; rw [e]
      dsimp only
      split at a2
      · rename_i q; rw [q]
      · cases a2
    rw [hsc] at h
    exact new_intro KX hm hi hfn ho hd (codeRec_of KX a1) lim hb a3 a4 a5 hlen (hbind fd e) a6 fun C s₁ x dx I o H i => h C x dx I o s₁ H i
  · cases hok

def clsIn (K : Frag) (c : Addr) : Bool := findIn K (.ref c) "__getattribute__" == some (some (.builtin "object.__getattribute__")) && findIn K (.ref c) "__getattr__" == some none && findIn K (.ref c) "__setattr__" == some (some (.builtin "object.__setattr__")) && hasDictIn K c && plainOver K c
theorem clsOk : ClsOk (KK w) 100 := ⟨by kernel_rfl, by kernel_rfl, by kernel_rfl, by kernel_rfl, by kernel_rfl⟩
end
end Mine

set_option Elab.async false
set_option linter.unusedVariables false
set_option linter.unusedSimpArgs false
set_option maxRecDepth 100000
namespace Mine
open PySem.Challenge

local macro_rules | `(tactic| walk_at "m mem") => `(tactic| first
  | with_reducible exact put_head
  | with_reducible exact List.mem_cons_self
  | (with_reducible apply put_tail (h := by decide +kernel); walk_at "m mem")
  | (with_reducible refine List.mem_cons_of_mem _ ?_; walk_at "m mem")
  | (with_reducible refine cap_mem (by kernel_rfl) ?_; walk_at "m mem"))
local macro_rules | `(tactic| walk_at "m sub") => `(tactic| first
  | with_reducible exact allIn_nil
  | (with_reducible refine allIn_cons (by walk_at "m mem") ?_; walk_at "m sub"))

section
variable {prog : Program} {w : World} {h₀ : Heap} {mg mb : Str → Option Value} {C : Cx} {ρ : Vs}

/-- the built-ins that the text uses -/
structure Bis (mb : Str → Option Value) : Prop where
  len : mb "len" = some (.builtin "len")
  tuple : mb "tuple" = some (.type "tuple")
  max : mb "max" = some (.builtin "max")
  min : mb "min" = some (.builtin "min")
  sum : mb "sum" = some (.builtin "sum")
  range : mb "range" = some (.type "range")
  chr : mb "chr" = some (.builtin "chr")

def wsNames : List Str := ["raw", "n", "nt", "norm", "is_simple"]
def wsVals (p c : Nat) (t : List Nat) : List D := [.str (padded p c t), .int p, .int 0, .tup [.tup [], .int p], .bool true]

theorem for_count {target : Expr} {body : List Stmt} {o : Out} {ds : List D} (r : Nat → Vs) (d : D) (n : Nat) (h0 : ForD prog w h₀ C (r n) target body ds o) (hs : ∀ i l, i < n → ForD prog w h₀ C (r (i + 1)) target body l o → ForD prog w h₀ C (r i) target body (d :: l) o) : ForD prog w h₀ C (r 0) target body (List.replicate n d ++ ds) o := by
  have : ∀ j i, i + j = n → ForD prog w h₀ C (r i) target body (List.replicate j d ++ ds) o := by
    intro j
    induction j with
    | zero => intro i hi; rw [show i = n by omega]; exact h0
    | succ j ih => intro i hi; exact hs i _ (by omega) (ih (i + 1) (by omega))
  exact this n 0 (by omega)
theorem for_next {target : Expr} {body : List Stmt} {d : D} {ds : List D} {ρ' ρ'' : Vs} {o : Out} (ha : ∀ I, AsgD prog w h₀ (C.also I) ρ target d ρ') (hb : ∀ I, ExsD prog w h₀ (C.also I) ρ' body (.next ρ'')) (hk : ForD prog w h₀ C ρ'' target body ds o) : ForD prog w h₀ C ρ target body (d :: ds) o := for_head (o' := .next ρ'') ha hb hk
theorem chr_ne {a b : Nat} (h : a ≠ b) : ((⟨#[a]⟩ : Str) == ⟨#[b]⟩) = false := by
  rw [beq_eq_false_iff_ne]
  intro q
  have q3 : [a] = [b] := congrArg (fun z : Str => z.cps.toList) q
  injection q3 with q4 _
  exact h q4

theorem swapped_of {env : Env} {sc : Scope} {ts : List Expr} {v : Expr} {r : Option (List Str)} (hsc : env.scope = sc) (h : swappedStores ts v { env with scope := sc } = pure r) : swappedStores ts v env = pure r := by subst hsc; exact h
theorem swapsSole_of {env : Env} {sc : Scope} {ts : List Expr} {v : Expr} {l : Nat} {r : Bool} (hsc : env.scope = sc) (h : swapsWithSole ts v l { env with scope := sc } = pure r) : swapsWithSole ts v l env = pure r := by subst hsc; exact h

theorem white_new (KX : (KK w).In h₀) (lim : h₀.NoLimit) (G : h₀.Ns mainGlobals mg) (B : h₀.Ns builtinsNs mb) (bi : Bis mb) (p c : Nat) (t : List Nat) (hc : c ≠ 32) (hc9 : c ≠ 9) (hsz : p + t.length ≤ 1000) :
    FnD prog w h₀ 100 2 [.str (padded p c t)] (.obj 100 wsNames (wsVals p c t)) := by
  have m1 : mg "Whitespace" = some (.ref 100) := mg_of KX G (by kernel_rfl)
  have m2 : mg "len" = none := mg_none_of KX G (by kernel_rfl)
  have m3 : mg "tuple" = none := mg_none_of KX G (by kernel_rfl)
  refine new_K (n := 0) ["self", "ws"] KX lim (fI := 55) (by kernel_rfl) (by kernel_rfl) (by kernel_rfl) (by kernel_rfl) rfl ?_ ?_
  · intro fd e vs hl
    match vs, hl with
    | [u, v], _ => cases e; rfl
  · intro C x dx I o
    show IniD _ _ _ _ _ _ _ [("self", .raw (.ref x)), ("ws", .str (padded p c t))] _ _ _ _ _
    conv => arg 11; whnf
    refine ini_attr o KX clsOk (ev_rawName (ev_name (by walk_at "m mem"))) (ev_name (by walk_at "m mem")) ?_ (by decide +kernel) (by kernel_rfl) (by decide)
    have evS : ∀ {ρ pos pos'}, EvD prog w h₀ C ρ (.Attribute (.Name "Whitespace" pos) "S" pos') (.str ⟨#[32]⟩) := fun {ρ pos pos'} =>
      ev_cattr (v := .str ⟨#[32]⟩ 304) KX (ev_glob G m1 I.scp (by kernel_rfl)) (mc := .type "type") (by kernel_rfl) (by kernel_rfl) rfl (fun _ _ => .str _ _)
    have evT : ∀ {ρ pos pos'}, EvD prog w h₀ C ρ (.Attribute (.Name "Whitespace" pos) "T" pos') (.str ⟨#[9]⟩) := fun {ρ pos pos'} =>
      ev_cattr (v := .str ⟨#[9]⟩ 305) KX (ev_glob G m1 I.scp (by kernel_rfl)) (mc := .type "type") (by kernel_rfl) (by kernel_rfl) rfl (fun _ _ => .str _ _)
    have evLen : ∀ {ρ} {l : List D} {y : Str} {p1 p2 p3 : Pos}, (y, D.list l) ∈ ρ → l.length ≤ 100 → (y == ("__debug__" : Str)) = false → (y == ("__classdict__" : Str)) = false →
        EvD prog w h₀ C ρ (.Call (.Name "len" p1) [.Name y p2] [] p3) (.int l.length) := fun {ρ l y p1 p2 p3} hm hl ha hb =>
      ev_callB (ev_bi G m2 B bi.len I.scp (by kernel_rfl)) (evs_cons (ev_name hm ha hb) evs_nil) (bi_len_list (by omega))
    refine ini_ex o (ex_swap2 (x := "S") (y := "T") (ev_tuple (evs_cons evS (evs_cons evT evs_nil))) (I.sto _ (by kernel_rfl)) (I.sto _ (by kernel_rfl)) (swapsSole_of I.scp (by with_unfolding_all rfl)) (swapped_of I.scp (by with_unfolding_all rfl))) ?_
    refine ini_ex o (ex_assign (ev_list evs_nil) (I.sto _ (by kernel_rfl))) ?_
    refine ini_ex o (ex_assign3 ev_int (I.sto _ (by kernel_rfl)) (I.sto _ (by kernel_rfl)) (I.sto _ (by kernel_rfl))) ?_
    let r : Nat → Vs := fun i => [("self", .raw (.ref x)), ("S", .str ⟨#[32]⟩), ("T", .str ⟨#[9]⟩), ("count", .list []), ("b", .int i), ("n", .int i), ("nt", .int 0)]
    refine ini_for (ds := List.replicate p (D.str ⟨#[32]⟩) ++ D.str ⟨#[c]⟩ :: t.map (fun c => D.str ⟨#[c]⟩)) (ρ' := put [("self", .raw (.ref x)), ("S", .str ⟨#[32]⟩), ("T", .str ⟨#[9]⟩), ("count", .list []), ("b", .int p), ("n", .int p), ("nt", .int 0)] "ch" (.str ⟨#[c]⟩)) o
      (fun s H i => at_attr (d := .str (padded p c t)) H KX clsOk i (ev_rawName (ev_name (by walk_at "m mem"))) (by rfl) (by kernel_rfl) (fun u q => nomatch q)) ?_ ?_ ?_
    · have := IterD.str (padded p c t)
      have e : (padded p c t).cps.toList.map (fun c => D.str ⟨#[c]⟩) = List.replicate p (D.str ⟨#[32]⟩) ++ D.str ⟨#[c]⟩ :: t.map (fun c => D.str ⟨#[c]⟩) := by
        show (List.replicate p 32 ++ c :: t).toArray.toList.map _ = _
        simp
      rwa [e] at this
    · refine ForD.sub (for_count (fun i => [("self", .raw (.ref x)), ("S", .str ⟨#[32]⟩), ("T", .str ⟨#[9]⟩), ("count", .list []), ("b", .int i), ("n", .int i), ("nt", .int 0)]) _ p ?_ fun i l hi ih => ?_) ?_
      · refine for_head (o' := .brk (put [("self", .raw (.ref x)), ("S", .str ⟨#[32]⟩), ("T", .str ⟨#[9]⟩), ("count", .list []), ("b", .int p), ("n", .int p), ("nt", .int 0)] "ch" (.str ⟨#[c]⟩))) (fun J => asg_name ((I.also J).sto _ (by kernel_rfl))) (fun J => ?_) rfl
        refine exs_brk (ex_if (c := false) ((tr_cmp (ev_name (by walk_at "m mem")) (ev_name (by walk_at "m mem")) cmp_eq_str).eq (chr_ne hc)) (fun q => nomatch q) fun _ => ?_)
        refine exs_brk (ex_if (c := false) ((tr_cmp (ev_name (by walk_at "m mem")) (ev_name (by walk_at "m mem")) cmp_eq_str).eq (chr_ne hc9)) (fun q => nomatch q) fun _ => ?_)
        exact exs_brk ex_brk
      · refine' for_next (fun J => asg_name ((I.also J).sto _ (by kernel_rfl))) (fun J => ?_) (ForD.sub ih ?_)
        · refine' exs_cons (ex_if (c := true) ((tr_cmp (ev_name (by walk_at "m mem")) (ev_name (by walk_at "m mem")) cmp_eq_str).eq (by decide +kernel)) (fun _ => ?_) fun q => nomatch q) exs_nil
          exact exs_cons (ex_assign (ev_bin (ev_name (by walk_at "m mem")) ev_int bin_add_int) ((I.also J).sto _ (by kernel_rfl))) (exs_cons (ex_assign (ev_bin (ev_name (by walk_at "m mem")) ev_int bin_add_int) ((I.also J).sto _ (by kernel_rfl))) exs_nil)
        · have e2 : (i : Int) + 1 = ((i + 1 : Nat) : Int) := by omega
          rw [e2]
          walk_at "m sub"
      · change ∀ q ∈ ([("self", .raw (.ref x)), ("S", .str ⟨#[32]⟩), ("T", .str ⟨#[9]⟩), ("count", .list []), ("b", .int 0), ("n", .int 0), ("nt", .int 0)] : Vs), q ∈ (_ : Vs)
        walk_at "m sub"
    · refine ini_attr o KX clsOk (ev_rawName (ev_name (by walk_at "m mem"))) (ev_name (by walk_at "m mem")) ?_ (by decide +kernel) (by kernel_rfl) (by decide)
      refine ini_attr o KX clsOk (ev_rawName (ev_name (by walk_at "m mem"))) (ev_name (by walk_at "m mem")) ?_ (by decide +kernel) (by kernel_rfl) (by decide)
      refine ini_attr o KX clsOk (ev_rawName (ev_name (by walk_at "m mem"))) (ev_tuple (evs_cons (ev_callT (ev_bi G m3 B bi.tuple I.scp (by kernel_rfl)) (evs_cons (ev_name (by walk_at "m mem")) evs_nil) (bi_tuple (by decide))) (evs_cons (ev_name (by walk_at "m mem")) evs_nil)) (by show 2 ≤ sizeLine; decide)) ?_ (by decide +kernel) (by kernel_rfl) (by decide)
      refine ini_attr o KX clsOk (ev_rawName (ev_name (by walk_at "m mem"))) ((ev_cmp (evLen (by walk_at "m mem") (by decide) (by decide +kernel) (by decide +kernel)) ev_int cmp_le_int).eq (d' := .bool true) rfl) ?_ (by decide +kernel) (by kernel_rfl) (by decide)
      exact ini_nil
end
end Mine

set_option Elab.async false
set_option linter.unusedVariables false
set_option linter.unusedSimpArgs false
set_option maxRecDepth 100000
namespace Mine
open PySem.Challenge

local macro_rules | `(tactic| walk_at "m mem") => `(tactic| first
  | with_reducible exact put_head
  | with_reducible exact List.mem_cons_self
  | (with_reducible apply put_tail (h := by decide +kernel); walk_at "m mem")
  | (with_reducible refine List.mem_cons_of_mem _ ?_; walk_at "m mem")
  | (with_reducible refine cap_mem (by kernel_rfl) ?_; walk_at "m mem"))
local macro_rules | `(tactic| walk_at "m sub") => `(tactic| first
  | with_reducible exact allIn_nil
  | (with_reducible refine allIn_cons (by walk_at "m mem") ?_; walk_at "m sub"))

/-! data that can be compared -/
def D.okd (n : Nat) (d : D) : Bool := d.flat && d.toPy.canLay0 && decide (d.toPy.depth ≤ n)
theorem okd_ok {n : Nat} {d : D} (h : d.okd n = true) (hn : n ≤ 64) : d.ok = true := by
  unfold D.okd at h; unfold D.ok SeqAt.shaped
  simp only [Bool.and_eq_true, decide_eq_true_eq] at h ⊢
  exact ⟨h.1.1, h.1.2, Nat.le_trans h.2 hn⟩
theorem okd_int (i : Int) (n : Nat) : (D.int i).okd n = true := by
  unfold D.okd; simp [D.flat, D.toPy, PyData.canLay0, PyData.depth]
theorem okd_bool (i : Bool) (n : Nat) : (D.bool i).okd n = true := by
  unfold D.okd; simp [D.flat, D.toPy, PyData.canLay0, PyData.depth]
theorem okd_str {x : Str} (h : PyData.strOk x = true) (n : Nat) : (D.str x).okd n = true := by
  unfold D.okd; simp [D.flat, D.toPy, PyData.canLay0, PyData.depth, h]
theorem okd_all {n : Nat} : ∀ {l : List D}, (∀ d ∈ l, d.okd n = true) → D.flats l = true ∧ PyData.canLayAll0 (D.toPys l) = true ∧ PyData.depthAll (D.toPys l) ≤ n
  | [], _ => ⟨rfl, rfl, Nat.zero_le _⟩
  | d :: l, h => by
    obtain ⟨a, b, c⟩ := okd_all fun e he => h e (.tail _ he)
    have q := h d (.head _)
    unfold D.okd at q
    simp only [Bool.and_eq_true, decide_eq_true_eq] at q
    refine ⟨by simp [D.flats, a, q.1.1], by simp [D.toPys, PyData.canLayAll0, q.1.2, b], ?_⟩
    simp only [D.toPys, PyData.depthAll]
    omega
theorem okd_list {n : Nat} {l : List D} (h : ∀ d ∈ l, d.okd n = true) : (D.list l).okd (n + 1) = true := by
  obtain ⟨a, b, c⟩ := okd_all h
  unfold D.okd
  simp [D.flat, D.toPy, PyData.canLay0, PyData.depth, a, b, c]
theorem okd_tup {n : Nat} {l : List D} (h : ∀ d ∈ l, d.okd n = true) : (D.tup l).okd (n + 1) = true := by
  obtain ⟨a, b, c⟩ := okd_all h
  unfold D.okd
  simp [D.flat, D.toPy, PyData.canLay0, PyData.depth, a, b, c]
theorem okd_up {n m : Nat} {d : D} (h : d.okd n = true) (l : n ≤ m) : d.okd m = true := by
  unfold D.okd at h ⊢
  simp only [Bool.and_eq_true, decide_eq_true_eq] at h ⊢
  exact ⟨h.1, Nat.le_trans h.2 l⟩
theorem okd_eq {n : Nat} {d : D} (h : d.okd n = true) : PyData.eqv d.toPy d.toPy = true := by
  unfold D.okd at h
  simp only [Bool.and_eq_true, decide_eq_true_eq] at h
  exact SeqAt.eqv_refl _ h.1.2

section
variable {prog : Program} {w : World} {h₀ : Heap} {mg mb : Str → Option Value} {C : Cx} {ρ : Vs}

theorem clsA : ∀ {name : Str}, name ∈ wsNames → findIn (KK w) (.ref 100) name = some none := fun {name} h => by
  unfold wsNames at h
  simp only [List.mem_cons, List.not_mem_nil, or_false] at h
  rcases h with rfl | rfl | rfl | rfl | rfl <;> kernel_rfl

theorem less_fn (KX : (KK w).In h₀) (lim : h₀.NoLimit) (p c q c' : Nat) (t t' : List Nat) :
    FnD prog w h₀ 90 1 [.obj 100 wsNames (wsVals p c t), .obj 100 wsNames (wsVals q c' t')] (.bool (decide (p < q))) := by
  refine fn_K ["self", "other"] KX lim (by kernel_rfl) rfl ?_ ?_
  · intro fd e vs hl
    match vs, hl with
    | [u, v], _ => cases e; rfl
  · intro C I
    show ExsD _ _ _ _ [("self", .obj 100 wsNames (wsVals p c t)), ("other", .obj 100 wsNames (wsVals q c' t'))] _ _
    conv => arg 6; whnf
    by_cases hpq : p < q
    · refine exs_cons (ex_if (c := false) ((tr_cmp (ev_attr (d := .int p) KX clsOk (ev_name (by walk_at "m mem")) (by rfl) (clsA (by decide +kernel)) (fun u q => nomatch q)) (ev_attr (d := .int q) KX clsOk (ev_name (by walk_at "m mem")) (by rfl) (clsA (by decide +kernel)) (fun u q => nomatch q)) cmp_ge_int).eq (by simp; omega)) (fun q => nomatch q) fun _ => exs_nil) ?_
      refine exs_ret (ex_if (c := true) ((tr_and2 (tr_bool (ev_attr (d := .bool true) KX clsOk (ev_name (by walk_at "m mem")) (by rfl) (clsA (by decide +kernel)) (fun u q => nomatch q))) fun _ => tr_bool (ev_attr (d := .bool true) KX clsOk (ev_name (by walk_at "m mem")) (by rfl) (clsA (by decide +kernel)) (fun u q => nomatch q))).eq rfl) (fun _ => ?_) fun q => nomatch q)
      refine exs_ret (ex_ret ((ev_cmp (ev_attr (d := .int 0) KX clsOk (ev_name (by walk_at "m mem")) (by rfl) (clsA (by decide +kernel)) (fun u q => nomatch q)) (ev_attr (d := .int 0) KX clsOk (ev_name (by walk_at "m mem")) (by rfl) (clsA (by decide +kernel)) (fun u q => nomatch q)) cmp_le_int).eq ?_))
      simp [hpq]
    · refine exs_ret (ex_if (c := true) ((tr_cmp (ev_attr (d := .int p) KX clsOk (ev_name (by walk_at "m mem")) (by rfl) (clsA (by decide +kernel)) (fun u q => nomatch q)) (ev_attr (d := .int q) KX clsOk (ev_name (by walk_at "m mem")) (by rfl) (clsA (by decide +kernel)) (fun u q => nomatch q)) cmp_ge_int).eq (by simp; omega)) (fun _ => ?_) fun q => nomatch q)
      exact exs_ret (ex_ret (ev_bool.eq (by simp [hpq])))
end
end Mine

set_option Elab.async false
set_option linter.unusedVariables false
set_option linter.unusedSimpArgs false
set_option maxRecDepth 100000
namespace Mine
open PySem.Challenge

local macro_rules | `(tactic| walk_at "m mem") => `(tactic| first
  | with_reducible exact put_head
  | with_reducible exact List.mem_cons_self
  | (with_reducible apply put_tail (h := by decide +kernel); walk_at "m mem")
  | (with_reducible refine List.mem_cons_of_mem _ ?_; walk_at "m mem")
  | (with_reducible refine cap_mem (by kernel_rfl) ?_; walk_at "m mem"))
local macro_rules | `(tactic| walk_at "m sub") => `(tactic| first
  | with_reducible exact allIn_nil
  | (with_reducible refine allIn_cons (by walk_at "m mem") ?_; walk_at "m sub"))

/-! the chips on the line -/
def prD (x : Nat × Nat) : D := .tup [.int x.1, .int x.2]
def intsD (P : List Nat) : List D := P.map fun (p : Nat) => .int p
def isFree (slack : Int) (P : List Nat) (x : Nat × Nat) : Bool := decide (0 ≤ (P.getD x.1 0 : Int) - P.getD x.2 0) && decide ((P.getD x.1 0 : Int) - P.getD x.2 0 ≤ slack)
def freeL (slack : Int) (prs : List (Nat × Nat)) (P : List Nat) : List (Nat × Nat) := prs.filter (isFree slack P)
def fire (P : List Nat) (x : Nat × Nat) : List Nat := (List.range P.length).map fun k => if k = x.1 then P.getD k 0 - 1 else if k = x.2 then P.getD k 0 + 1 else P.getD k 0
theorem fire_length (P : List Nat) (x : Nat × Nat) : (fire P x).length = P.length := by simp [fire]
def Fits (n : Nat) (prs : List (Nat × Nat)) : Prop := ∀ x ∈ prs, x.1 < n ∧ x.2 < n

inductive Told (slack : Int) (prs : List (Nat × Nat)) : List Nat → List Nat → Prop
  | done {P : List Nat} : freeL slack prs P = [] → Told slack prs P P
  | turn {P P' : List Nat} {x : Nat × Nat} : (freeL slack prs P).getLast? = some x → 1 ≤ P.getD x.1 0 → Told slack prs (fire P x) P' → Told slack prs P P'

theorem intsD_get {P : List Nat} {l : Nat} (h : l < P.length) : (intsD P)[(l : Int).toNat]? = some (.int (P.getD l 0 : Nat)) := by
  unfold intsD
  rw [Int.toNat_natCast, List.getElem?_map, List.getD_eq_getElem?_getD, List.getElem?_eq_getElem h]; rfl
theorem flat_filter {α : Type} (b : α → Bool) (g : α → D) : ∀ l : List α, l.flatMap (fun x => if b x then [g x] else []) = (l.filter b).map g
  | [] => rfl
  | x :: l => by
    rw [List.flatMap_cons, flat_filter b g l]
    cases h : b x <;> simp [h]
theorem flat_one {α : Type} (g : α → D) : ∀ l : List α, l.flatMap (fun x => [g x]) = l.map g
  | [] => rfl
  | x :: l => by rw [List.flatMap_cons, flat_one g l]; rfl
theorem filter_le (b : Nat × Nat → Bool) (l : List (Nat × Nat)) : (l.filter b).length ≤ l.length := List.length_filter_le _ _
theorem pairs_okd (l : List (Nat × Nat)) : (D.list (l.map prD)).okd 3 = true := by
  refine okd_list fun d hd => ?_
  obtain ⟨x, _, rfl⟩ := List.mem_map.mp hd
  exact okd_tup (n := 1) fun d hd => by
    simp only [List.mem_cons, List.not_mem_nil, or_false] at hd
    rcases hd with rfl | rfl <;> exact okd_int _ _
theorem nil_okd : (D.list []).okd 3 = true := by decide +kernel
theorem eqv_nil (l : List D) : PyData.eqv (D.list l).toPy (D.list []).toPy = l.isEmpty := by
  cases l <;> simp [D.toPy, D.toPys, PyData.eqv, PyData.eqvAll]

theorem swaps_of {env : Env} {sc : Scope} {e : Expr} {t : Option Expr} {l : Nat} {r : Bool} (hsc : env.scope = sc) (h : swapsWith e t l { env with scope := sc } = pure r) : swapsWith e t l env = pure r := by subst hsc; exact h

theorem intsFrom_map (lo : Nat) (n : Nat) : intsFrom lo n = (List.range' lo n).map fun (k : Nat) => D.int k := by
  induction n generalizing lo with
  | zero => rfl
  | succ n ih =>
    rw [List.range'_succ, List.map_cons, ← ih]
    show D.int _ :: intsFrom _ n = _
    rw [show ((lo : Nat) : Int) + 1 = ((lo + 1 : Nat) : Int) by omega]
theorem iter_upto (n : Nat) (h : n ≤ 2 ^ 60) : IterD (.range 0 n) ((List.range n).map fun (k : Nat) => D.int k) := by
  have := iter_range (lo := 0) (hi := n) n (.inl (by omega)) (by omega) (by omega) (by omega) (by omega)
  rwa [show intsFrom 0 n = _ from intsFrom_map 0 n, ← List.range_eq_range'] at this

theorem cap_ne {scope sc : Scope} {ρ : Vs} {y : Str} (hy : ownIn scope y = true) {q : Str × D} (hq : q ∈ cap scope sc ρ) : (q.1 == y) = false := by
  obtain ⟨x, e⟩ := q
  obtain ⟨_, h⟩ := List.mem_filter.mp hq
  simp only [Bool.and_eq_true] at h
  obtain ⟨h1, h2⟩ := freeIn_mem h.1
  cases hb : (x == y) with
  | false => rfl
  | true =>
    have := beq_iff_eq.mp hb
    subst this
    unfold ownIn at hy
    simp only [Bool.or_eq_true, beq_iff_eq] at hy
    rcases hy with hy | hy
    · have := h2 _ (lookup_mem hy) rfl; cases this
    · have := h2 _ (lookup_mem hy) rfl; cases this
theorem cap_put2 {scope sc : Scope} {ρ : Vs} {x y : Str} {d e : D} (hx : ownIn scope x = true) (hy : ownIn scope y = true) : ∀ q ∈ cap scope sc ρ, q ∈ put (put (cap scope sc ρ) x d) y e := fun q hq => by
  obtain ⟨z, f⟩ := q
  exact put_tail (cap_ne hy hq) (put_tail (cap_ne hx hq) hq)

section
variable {prog : Program} {w : World} {h₀ : Heap} {mg mb : Str → Option Value} {C : Cx} {ρ : Vs}

theorem ifs_one {c : Expr} {b : Bool} (h : TrD prog w h₀ C ρ c b) : IfsD prog w h₀ C ρ [c] b := h
theorem ifs_none : IfsD prog w h₀ C ρ [] true := rfl
theorem turn_if {target elt c : Expr} {d d' : D} {ρ' : Vs} {b : Bool} (ha : AsgD prog w h₀ C ρ target d ρ') (hs : ∀ q ∈ ρ, q ∈ ρ') (hi : TrD prog w h₀ C ρ' c b) (he : b = true → EvD prog w h₀ C ρ' elt d') : TurnD prog w h₀ C ρ target elt [c] d (if b then [d'] else []) :=
  ⟨ρ', b, ha, hs, hi, fun hb => ⟨d', he hb, by rw [hb]; rfl⟩, fun hb => by rw [hb]; rfl⟩
theorem turn_all {target elt : Expr} {d d' : D} {ρ' : Vs} (ha : AsgD prog w h₀ C ρ target d ρ') (hs : ∀ q ∈ ρ, q ∈ ρ') (he : EvD prog w h₀ C ρ' elt d') : TurnD prog w h₀ C ρ target elt [] d [d'] :=
  ⟨ρ', true, ha, hs, rfl, fun hb => ⟨d', he, rfl⟩, fun hb => nomatch hb⟩
theorem ev_eqint {x y : Expr} {pos : Pos} {a b : Nat} (hx : EvD prog w h₀ C ρ x (.int a)) (hy : EvD prog w h₀ C ρ y (.int b)) (hm : behindInMarks .Eq y = false := by with_unfolding_all rfl) : TrD prog w h₀ C ρ (.Compare x [.Eq] [y] pos) (decide (a = b)) :=
  (tr_cmp hx hy cmp_eq_int hm).eq (by
    by_cases h : a = b
    · subst h; simp
    · have : ¬ ((a : Int) = b) := by omega
      simp [h, this])

theorem WhD.less {t : Expr} {body : List Stmt} {ρ' ρ'' : Vs} (h : WhD prog w h₀ C ρ t body (.next ρ')) (hs : ∀ p ∈ ρ'', p ∈ ρ') : WhD prog w h₀ C ρ t body (.next ρ'') := fun s H =>
  codeAny_mono (h s H) fun r s' z => by
    cases r with
    | ok f => exact ⟨z.1, z.2.1, z.2.2.sub hs⟩
    | error e => exact z
theorem fire_flat (P : List Nat) (x : Nat × Nat) : intsD (fire P x) = ((List.range P.length).map fun k => D.int (if k = x.1 then P.getD k 0 - 1 else if k = x.2 then P.getD k 0 + 1 else P.getD k 0 : Nat)) := by
  unfold intsD fire; rw [List.map_map]; rfl

theorem last_get {L : List (Nat × Nat)} {x : Nat × Nat} (e : L.getLast? = some x) : (L.map prD)[(-1 + ((L.map prD).length : Int)).toNat]? = some (.tup [.int x.1, .int x.2]) := by
  have h : (-1 + ((L.map prD).length : Int)).toNat = L.length - 1 := by rw [List.length_map]; omega
  rw [h, List.getElem?_map, ← List.getLast?_eq_getElem?, e]; rfl

theorem ex_asgT {e : Expr} {elts : List Expr} {k : Nat} {tp pos : Pos} {d : D} {ρ' : Vs} (h : EvD prog w h₀ C ρ e d) (ha : AsgD prog w h₀ C ρ (.Tuple elts k tp) d ρ')
    (hs : swapsWithSole [.Tuple elts k tp] e pos.line C.env = pure false := by rfl) (hw : swappedStores [.Tuple elts k tp] e C.env = pure none := by rfl) :
    ExD prog w h₀ C ρ (.Assign [.Tuple elts k tp] e pos) (.next ρ') := ex_assignT (target := e) h ha hs hw

theorem told_fn (KX : (KK w).In h₀) (lim : h₀.NoLimit) (G : h₀.Ns mainGlobals mg) (B : h₀.Ns builtinsNs mb) (bi : Bis mb) {slack : Int} {prs : List (Nat × Nat)} {P P' : List Nat} (T : Told slack prs P P') (hf : Fits P.length prs) (hn : P.length ≤ 100) (hl : prs.length ≤ 1000) :
    FnD prog w h₀ 145 1 [.list (intsD P), .list (prs.map prD), .int slack] (.list (intsD P')) := by
  have m1 : mg "range" = none := mg_none_of KX G (by kernel_rfl)
  have m2 : mg "len" = none := mg_none_of KX G (by kernel_rfl)
  refine fn_K ["places", "pairs", "slack"] KX lim (by kernel_rfl) rfl ?_ ?_
  · intro fd e vs hl
    match vs, hl with
    | [u, v, x], _ => cases e; rfl
  · intro C I
    show ExsD _ _ _ _ [("places", .list (intsD P)), ("pairs", .list (prs.map prD)), ("slack", .int slack)] _ _
    conv => arg 6; whnf
    have hdl : ∀ P : List Nat, (prs.flatMap fun x => if isFree slack P x then [prD x] else []).length ≤ sizeLine := fun P => by
      rw [flat_filter, List.length_map, sizeLine_eq]; have := List.length_filter_le (isFree slack P) prs; omega
    refine exs_cons (ex_comp (src := .list (prs.map prD)) prs prD (fun x => if isFree slack P x then [prD x] else []) I.scp (by kernel_rfl) (ev_name (by walk_at "m mem")) (.list _) (hdl P) ?_ (I.sto _ (by kernel_rfl)) (swaps_of I.scp (by with_unfolding_all rfl))) ?_
    · intro x hx Cc J
      obtain ⟨f1, f2⟩ := hf x hx
      show TurnD _ _ _ _ _ _ _ _ (.tup [.int x.1, .int x.2]) _
      refine turn_if (asg_two (J.sto _ (by kernel_rfl)) (J.sto _ (by kernel_rfl))) (cap_put2 (by kernel_rfl) (by kernel_rfl)) (tr_chain2 ev_int (ev_bin (ev_item_list (ev_name (by walk_at "m mem")) (ev_name (by walk_at "m mem")) (by omega) (by omega) (intsD_get f1)) (ev_item_list (ev_name (by walk_at "m mem")) (ev_name (by walk_at "m mem")) (by omega) (by omega) (intsD_get f2)) bin_sub_int) (ev_name (by walk_at "m mem")) cmp_le_int cmp_le_int) fun _ => ?_
      exact ev_tuple (evs_cons (ev_name (by walk_at "m mem")) (evs_cons (ev_name (by walk_at "m mem")) evs_nil)) (by show 2 ≤ sizeLine; decide)
    rw [flat_filter]
    change ExsD _ _ _ _ (put _ _ (.list ((freeL slack prs P).map prD))) _ _
    refine exs_cons (ρ' := [("places", .list (intsD P'))]) (ex_while ?_) (exs_ret (ex_ret (ev_name (by walk_at "m mem"))))
    refine WhD.sub (ρ := [("places", .list (intsD P)), ("pairs", .list (prs.map prD)), ("slack", .int slack), ("free", .list ((freeL slack prs P).map prD))]) ?_ (by walk_at "m sub")
    induction T with
    | @done P e =>
      refine WhD.less (wh_done ?_) (by walk_at "m sub")
      refine (tr_cmp (ev_name (by walk_at "m mem")) (ev_list evs_nil) (cmp_ne_data (okd_ok (pairs_okd _) (by decide)) (okd_ok nil_okd (by decide)) (by have := I.room.units; omega))).eq ?_
      rw [eqv_nil, e]; rfl
    | @turn P P' x e h1 T ih =>
      have ih := ih (by rw [fire_length]; exact hf) (by rw [fire_length]; exact hn)
      have hx : x ∈ freeL slack prs P := List.mem_of_getLast? e
      have hx' : x ∈ prs := (List.mem_filter.mp hx).1
      have hne : freeL slack prs P ≠ [] := fun q => by rw [q] at hx; cases hx
      obtain ⟨f1, f2⟩ := hf x hx'
      refine wh_turn ((tr_cmp (ev_name (by walk_at "m mem")) (ev_list evs_nil) (cmp_ne_data (okd_ok (pairs_okd _) (by decide)) (okd_ok nil_okd (by decide)) (by have := I.room.units; omega))).eq ?_) ?_ ih
      · rw [eqv_nil]
        cases hq : freeL slack prs P with
        | nil => exact absurd hq hne
        | cons a b => rfl
      · have hlen : (freeL slack prs P).length ≠ 0 := fun q => hne (List.eq_nil_of_length_eq_zero q)
        refine exs_cons (ex_asgT (d := .tup [.int x.1, .int x.2]) (ev_item_neg (k := -1) (ev_name (by walk_at "m mem")) (ev_neg ev_int) (by decide) (by rw [List.length_map]; omega) (by decide) (last_get e)) (asg_two (I.sto _ (by kernel_rfl)) (I.sto _ (by kernel_rfl)))) ?_
        refine exs_cons (ex_assign (d := .list (intsD (fire P x))) ?_ (I.sto _ (by kernel_rfl)) (swaps_of I.scp (by with_unfolding_all rfl))) ?_
        · refine (ev_comp (src := .range 0 P.length) (List.range P.length) (fun (k : Nat) => D.int k) (fun k => [D.int (if k = x.1 then P.getD k 0 - 1 else if k = x.2 then P.getD k 0 + 1 else P.getD k 0 : Nat)]) I.scp (by kernel_rfl) ?_ (iter_upto _ (by omega)) ?_ ?_).eq ?_
          · exact ev_callT (ev_bi G m1 B bi.range I.scp (by kernel_rfl)) (evs_cons ((ev_callB (ev_bi G m2 B bi.len I.scp (by kernel_rfl)) (evs_cons (ev_name (by walk_at "m mem")) evs_nil) (bi_len_list (by unfold intsD; rw [List.length_map]; omega))).eq (by unfold intsD; rw [List.length_map])) evs_nil) bi_range1
          · rw [flat_one, List.length_map, List.length_range, sizeLine_eq]; omega
          · intro k hk Cc J
            have hk := List.mem_range.mp hk
            refine turn_all (asg_name (J.sto _ (by kernel_rfl))) (cap_put (by kernel_rfl)) (ev_if (ev_eqint (ev_name (by walk_at "m mem")) (ev_name (by walk_at "m mem"))) (fun q => ?_) fun q => ev_if (ev_eqint (ev_name (by walk_at "m mem")) (ev_name (by walk_at "m mem"))) (fun q' => ?_) fun q' => ?_)
            · have q := of_decide_eq_true q
              refine (ev_bin (ev_item_list (ev_name (by walk_at "m mem")) (ev_name (by walk_at "m mem")) (by omega) (by omega) (intsD_get hk)) ev_int bin_sub_int).eq ?_
              rw [if_pos q, q]
              congr 1
              omega
            · have q := of_decide_eq_false q
              have q' := of_decide_eq_true q'
              refine (ev_bin (ev_item_list (ev_name (by walk_at "m mem")) (ev_name (by walk_at "m mem")) (by omega) (by omega) (intsD_get hk)) ev_int bin_add_int).eq ?_
              rw [if_neg q, if_pos q']
              congr 1
            · have q := of_decide_eq_false q
              have q' := of_decide_eq_false q'
              refine (ev_item_list (ev_name (by walk_at "m mem")) (ev_name (by walk_at "m mem")) (by omega) (by omega) (intsD_get hk)).eq ?_
              rw [if_neg q, if_neg q']
          · rw [flat_one, fire_flat]
        have hlf := fire_length P x
        have f1' : Fits (fire P x).length prs := by rw [fire_length]; exact hf
        refine exs_cons (ex_comp (src := .list (prs.map prD)) prs prD (fun y => if isFree slack (fire P x) y then [prD y] else []) I.scp (by kernel_rfl) (ev_name (by walk_at "m mem")) (.list _) (hdl _) ?_ (I.sto _ (by kernel_rfl)) (swaps_of I.scp (by with_unfolding_all rfl))) ?_
        · intro x hx Cc J
          obtain ⟨f1, f2⟩ := f1' x hx
          show TurnD _ _ _ _ _ _ _ _ (.tup [.int x.1, .int x.2]) _
          refine turn_if (asg_two (J.sto _ (by kernel_rfl)) (J.sto _ (by kernel_rfl))) (cap_put2 (by kernel_rfl) (by kernel_rfl)) (tr_chain2 ev_int (ev_bin (ev_item_list (ev_name (by walk_at "m mem")) (ev_name (by walk_at "m mem")) (by omega) (by omega) (intsD_get f1)) (ev_item_list (ev_name (by walk_at "m mem")) (ev_name (by walk_at "m mem")) (by omega) (by omega) (intsD_get f2)) bin_sub_int) (ev_name (by walk_at "m mem")) cmp_le_int cmp_le_int) fun _ => ?_
          exact ev_tuple (evs_cons (ev_name (by walk_at "m mem")) (evs_cons (ev_name (by walk_at "m mem")) evs_nil)) (by show 2 ≤ sizeLine; decide)
        · rw [flat_filter]
          change ExsD _ _ _ _ (put _ _ (.list ((freeL slack prs (fire P x)).map prD))) _ _
          exact exs_nil.less (by walk_at "m sub")
end
end Mine

set_option Elab.async false
set_option linter.unusedVariables false
set_option linter.unusedSimpArgs false
namespace Mine
open PySem.Builtin PySem.Builtin.Str

/-! texts -/
def turnC (c d : Nat) (k : Nat) : Nat := if k = c then d else k
theorem turnC_free (c d : Nat) : ∀ l : List Nat, c ∉ l → l.map (turnC c d) = l
  | [], _ => rfl
  | k :: r, h => by
    rw [List.map_cons, turnC_free c d r fun m => h (.tail _ m)]
    have hk : k ≠ c := fun q => h (by rw [q]; exact .head _)
    simp [turnC, hk]
theorem turnC_join (c d : Nat) : ∀ parts : List Str, (∀ p ∈ parts, c ∉ p.cps.toList) → (Str.join ⟨#[c]⟩ parts).cps.toList.map (turnC c d) = (Str.join ⟨#[d]⟩ parts).cps.toList
  | [], _ => rfl
  | [p], h => turnC_free c d _ (h p (List.mem_singleton.mpr rfl))
  | p :: q :: r, h => by
    have ih := turnC_join c d (q :: r) fun a ha => h a (List.mem_cons_of_mem _ ha)
    show (p ++ ⟨#[c]⟩ ++ Str.join ⟨#[c]⟩ (q :: r)).cps.toList.map (turnC c d) = (p ++ ⟨#[d]⟩ ++ Str.join ⟨#[d]⟩ (q :: r)).cps.toList
    simp only [Str.cps_append, Array.toList_append, List.map_append]
    rw [ih, turnC_free c d _ (h p (List.mem_cons_self ..))]
    simp [turnC]
theorem replace_map (x : Str) (c d : Nat) : (Txt.replace x ⟨#[c]⟩ ⟨#[d]⟩).cps.toList = x.cps.toList.map (turnC c d) := by
  rw [StrLaws.replace_one, ← turnC_join c d _ (StrLaws.split_free x c), StrLaws.join_split]

theorem map_rep (c d n : Nat) : (List.replicate n c).map (turnC c d) = List.replicate n d := by
  rw [List.map_replicate]; simp [turnC]

theorem nlL_plain : ∀ (l : List Nat) (r : List Nat), (∀ k ∈ l, k ≠ 10 ∧ k ≠ 13) → nlL false (l ++ r) = l ++ nlL false r
  | [], r, _ => rfl
  | k :: l, r, h => by
    have ih := nlL_plain l r fun a ha => h a (.tail _ ha)
    obtain ⟨h1, h2⟩ := h k (.head _)
    show nlL false (k :: (l ++ r)) = k :: (l ++ nlL false r)
    rw [nlL, if_neg h2, if_neg h1, ih]
theorem dotL_plain : ∀ (l : List Nat) (r : List Nat), (∀ k ∈ l, k ≠ 10) → dotL false (l ++ r) = l ++ dotL false r
  | [], r, _ => rfl
  | k :: l, r, h => by
    have ih := dotL_plain l r fun a ha => h a (.tail _ ha)
    have h1 := h k (.head _)
    show dotL false (k :: (l ++ r)) = k :: (l ++ dotL false r)
    rw [dotL, if_neg (by simp), beq_eq_false_iff_ne.mpr h1, ih]
/-- a line's end -/
def IsEnd (e : List Nat) : Prop := e = [10] ∨ e = [13] ∨ e = [13, 10]
theorem nlL_end {e r : List Nat} (he : IsEnd e) (hr : r.head? ≠ some 10) : nlL false (e ++ r) = 13 :: 10 :: nlL false r := by
  rcases he with rfl | rfl | rfl
  · show nlL false (10 :: r) = _
    rw [nlL]; simp
  · show nlL false (13 :: r) = _
    rw [nlL]; simp [nl_plain hr]
  · show nlL false (13 :: 10 :: r) = _
    rw [nlL, nlL]; simp
theorem dotL_line {l r : List Nat} (hl : ∀ k ∈ l, k ≠ 10) : dotL true (46 :: (l ++ 13 :: 10 :: r)) = 46 :: 46 :: (l ++ 13 :: 10 :: dotL true r) := by
  rw [dotL, if_pos ⟨rfl, rfl⟩, dotL_plain _ _ hl, dotL, if_neg (by simp), dotL, if_neg (by simp)]
  rfl
theorem str_of {x : Str} {l : List Nat} (h : x.cps.toList = l) : x = ⟨l.toArray⟩ := str_ext (by rw [h])

/-! a line of blanks and two letters goes one in -/
theorem dots_text {p c d : Nat} (hc : 60 ≤ c) (hd : 60 ≤ d) : Txt.replace ⟨(List.replicate p 32 ++ c :: [d]).toArray⟩ ⟨#[32]⟩ ⟨#[46]⟩ = ⟨(List.replicate p 46 ++ [c, d]).toArray⟩ := by
  refine str_of ?_
  rw [replace_map]
  show List.map _ (List.replicate p 32 ++ c :: [d]) = _
  rw [List.map_append, map_rep, turnC_free 32 46 [c, d] (by simp; omega)]
theorem quoted_dots {p c d : Nat} {e : List Nat} (hp : 1 ≤ p) (hc : 60 ≤ c) (hd : 60 ≤ d) (he : IsEnd e) : quoted (⟨(List.replicate p 46 ++ [c, d]).toArray⟩ ++ ⟨e.toArray⟩) = ⟨(List.replicate (p + 1) 46 ++ [c, d, 13, 10]).toArray⟩ := by
  have h1 : (⟨(List.replicate p 46 ++ [c, d]).toArray⟩ ++ ⟨e.toArray⟩ : Str).cps.toList = (List.replicate p 46 ++ [c, d]) ++ (e ++ []) := by
    rw [Str.cps_append, Array.toList_append]
    simp
  have hpl : ∀ k ∈ List.replicate p 46 ++ [c, d], k ≠ 10 ∧ k ≠ 13 := by
    intro k hk
    simp only [List.mem_append, List.mem_replicate, List.mem_cons, List.not_mem_nil, or_false] at hk
    omega
  obtain ⟨p, rfl⟩ : ∃ q, p = q + 1 := ⟨p - 1, by omega⟩
  refine str_of ?_
  show (dotL true (nlL false _)).toArray.toList = _
  rw [h1, nlL_plain _ _ hpl, nlL_end he (by simp)]
  show dotL true ((46 :: List.replicate p 46) ++ [c, d] ++ [13, 10]) = _
  have := dotL_line (l := List.replicate p 46 ++ [c, d]) (r := []) (by
    intro k hk
    simp only [List.mem_append, List.mem_replicate, List.mem_cons, List.not_mem_nil, or_false] at hk
    omega)
  simp only [List.append_assoc, List.cons_append, List.nil_append] at this ⊢
  rw [this]
  simp [List.replicate_succ, dotL]
theorem blanks_text {q c d : Nat} (hc : 60 ≤ c) (hd : 60 ≤ d) : Txt.replace ⟨(List.replicate q 46 ++ [c, d, 13, 10]).toArray⟩ ⟨#[46]⟩ ⟨#[32]⟩ = ⟨(List.replicate q 32 ++ [c, d, 13, 10]).toArray⟩ := by
  refine str_of ?_
  rw [replace_map]
  show List.map _ (List.replicate q 46 ++ [c, d, 13, 10]) = _
  rw [List.map_append, map_rep, turnC_free 46 32 [c, d, 13, 10] (by simp; omega)]
theorem cut_text (q c d : Nat) : sliceL (List.replicate q 32 ++ [c, d, 13, 10]) none (some (-2)) = List.replicate q 32 ++ [c, d] := by
  unfold sliceL
  have h : clipAt (List.replicate q 32 ++ [c, d, 13, 10]).length (-2) = (List.replicate q 32 ++ [c, d]).length := by
    unfold clipAt
    simp
    omega
  show (List.drop 0 _).take (clipAt _ _ - 0) = _
  rw [h, List.drop_zero, Nat.sub_zero]
  have : List.replicate q 32 ++ [c, d, 13, 10] = (List.replicate q 32 ++ [c, d]) ++ [13, 10] := by simp
  rw [this, List.take_left]
end Mine

set_option Elab.async false
set_option linter.unusedVariables false
set_option linter.unusedSimpArgs false
set_option maxRecDepth 100000
namespace Mine
open PySem.Challenge

local macro_rules | `(tactic| walk_at "m mem") => `(tactic| first
  | with_reducible exact put_head
  | with_reducible exact List.mem_cons_self
  | (with_reducible apply put_tail (h := by decide +kernel); walk_at "m mem")
  | (with_reducible refine List.mem_cons_of_mem _ ?_; walk_at "m mem")
  | (with_reducible refine cap_mem (by kernel_rfl) ?_; walk_at "m mem"))
local macro_rules | `(tactic| walk_at "m sub") => `(tactic| first
  | with_reducible exact allIn_nil
  | (with_reducible refine allIn_cons (by walk_at "m mem") ?_; walk_at "m sub"))

def lineS (P : List Nat) (W : List (Nat × Nat)) (k : Nat) : Str := padded (P.getD k 0) (W.getD k (0, 0)).1 [(W.getD k (0, 0)).2]
def linesD (P : List Nat) (W : List (Nat × Nat)) : List D := (List.range P.length).map fun k => .str (lineS P W k)
def leadD (P : List Nat) (W : List (Nat × Nat)) (k : Nat) : D := .obj 100 wsNames (wsVals (P.getD k 0) (W.getD k (0, 0)).1 [(W.getD k (0, 0)).2])
def WordsOk (W : List (Nat × Nat)) (n : Nat) : Prop := ∀ k, k < n → 60 ≤ (W.getD k (0, 0)).1 ∧ 60 ≤ (W.getD k (0, 0)).2
def Small (P : List Nat) : Prop := ∀ k, P.getD k 0 ≤ 100
theorem rangeD_get {n l : Nat} {g : Nat → D} (h : l < n) : ((List.range n).map g)[(l : Int).toNat]? = some (g l) := by
  rw [Int.toNat_natCast, List.getElem?_map, List.getElem?_range h]; rfl

inductive Run (slack : Int) (prs : List (Nat × Nat)) (picks : Int) : Nat → List Nat → List Nat → Prop
  | done {k : Nat} {P : List Nat} : k < 60 → Small P → freeL slack prs P = [] → Run slack prs picks k P P
  | turn {k : Nat} {P P' : List Nat} {x : Nat × Nat} : k < 60 → Small P → (freeL slack prs P)[((picks.fdiv (7 ^ k)).fmod ((freeL slack prs P).length : Int)).toNat]? = some x → 1 ≤ P.getD x.1 0 → 1 ≤ P.getD x.2 0 →
      Run slack prs picks (k + 1) (fire P x) P' → Run slack prs picks k P P'

theorem last_two {c d : Nat} (h : 60 ≤ d) : (c :: [d]).getLast? ≠ some 32 := fun q => by
  have : some d = some 32 := q
  injection this with this
  omega
theorem end_len {e : List Nat} (he : IsEnd e) : e.length ≤ 2 := by rcases he with rfl | rfl | rfl <;> decide
theorem dots_size {p c d : Nat} {e : List Nat} (hp : p ≤ 100) (he : IsEnd e) : (⟨(List.replicate p 46 ++ [c, d]).toArray⟩ ++ ⟨e.toArray⟩ : Str).cps.size ≤ 400 := by
  show ((List.replicate p 46 ++ [c, d]).toArray ++ e.toArray).size ≤ 400
  have := end_len he
  simp; omega
theorem rep_size (p a : Nat) (l : List Nat) : (⟨(List.replicate p a ++ l).toArray⟩ : Str).length = p + l.length := by
  show (List.replicate p a ++ l).toArray.size = _
  simp
theorem free_is (slack : Int) (P : List Nat) (x : Nat × Nat) : ((decide (P.getD x.1 0 < P.getD x.2 0) == false) && decide ((P.getD x.1 0 : Int) - P.getD x.2 0 ≤ slack)) = isFree slack P x := by
  unfold isFree
  congr 1
  by_cases h : P.getD x.1 0 < P.getD x.2 0
  · rw [decide_eq_true h]; symm; exact decide_eq_false (by omega)
  · rw [decide_eq_false h]; symm; exact decide_eq_true (by omega)
theorem fire_lines (P : List Nat) (W : List (Nat × Nat)) (x : Nat × Nat) : linesD (fire P x) W = ((List.range P.length).map fun k => D.str (padded (if k = x.1 then P.getD k 0 - 1 else if k = x.2 then P.getD k 0 + 1 else P.getD k 0) (W.getD k (0, 0)).1 [(W.getD k (0, 0)).2])) := by
  unfold linesD lineS
  rw [fire_length]
  refine List.map_congr_left fun k hk => ?_
  have hk := List.mem_range.mp hk
  have : (fire P x).getD k 0 = if k = x.1 then P.getD k 0 - 1 else if k = x.2 then P.getD k 0 + 1 else P.getD k 0 := by
    unfold fire
    rw [List.getD_eq_getElem?_getD, List.getElem?_map, List.getElem?_range hk]; rfl
  rw [this]
theorem pow7_log {k : Nat} (h : k < 60) : ((7 : Int) ^ k).natAbs.log2 < 9000 := by
  have e : ((7 : Int) ^ k).natAbs = 7 ^ k := by rw [Int.natAbs_pow]; rfl
  rw [e]
  have h1 : (7 : Nat) ^ k ≤ 7 ^ 60 := Nat.pow_le_pow_right (by decide) (by omega)
  have h2 : (7 : Nat) ^ 60 < 2 ^ 9000 := by decide +kernel
  exact (Nat.log2_lt (by exact Nat.pos_iff_ne_zero.mp (Nat.pow_pos (by decide)))).mpr (Nat.lt_of_le_of_lt h1 h2)

section
variable {prog : Program} {w : World} {h₀ : Heap} {mg mb : Str → Option Value} {C : Cx} {ρ : Vs}

theorem pick_ev {e1 e2 e3 : Expr} {p1 p2 p3 p4 : Pos} {k7 : Nat} {picks : Int} {k n : Nat} (hk : k < 60) (hn : n ≠ 0) (h1 : EvD prog w h₀ C ρ e1 (.int picks)) (h2 : EvD prog w h₀ C ρ e2 (.int k)) (h3 : EvD prog w h₀ C ρ e3 (.int n)) :
    EvD prog w h₀ C ρ (.BinOp (.BinOp e1 .FloorDiv (.BinOp (.Constant (.int 7) k7 p1) .Pow e2 p2) p3) .Mod e3 p4) (.int ((picks.fdiv (7 ^ k)).fmod (n : Int))) := by
  refine ev_bin (ev_bin h1 (ev_bin ev_int h2 (bin_pow (by omega) ?_)) (bin_floordiv ?_ ?_)) h3 (bin_mod (by omega))
  · have : Builtin.Int.intBits 7 = 3 := by decide +kernel
    rw [this]; omega
  · rw [Int.toNat_natCast]
    have : (7 : Int) ^ k > 0 := Int.pow_pos (by decide)
    omega
  · rw [Int.toNat_natCast]; exact pow7_log hk

theorem run_fn (KX : (KK w).In h₀) (lim : h₀.NoLimit) (G : h₀.Ns mainGlobals mg) (B : h₀.Ns builtinsNs mb) (bi : Bis mb) {slack picks : Int} {prs W : List (Nat × Nat)} {e : List Nat} {P P' : List Nat} (T : Run slack prs picks 0 P P') (hf : Fits P.length prs) (hn : P.length ≤ 100) (hl : prs.length ≤ 1000)
    (hW : WordsOk W P.length) (he : IsEnd e) :
    FnD prog w h₀ 140 3 [.list (linesD P W), .list (prs.map prD), .int slack, .int picks, .str ⟨e.toArray⟩] (.list (linesD P' W)) := by
  have m1 : mg "range" = none := mg_none_of KX G (by kernel_rfl)
  have m2 : mg "len" = none := mg_none_of KX G (by kernel_rfl)
  have m3 : mg "Whitespace" = some (.ref 100) := mg_of KX G (by kernel_rfl)
  have m4 : mg "_strip_padding" = some (.ref 118) := mg_of KX G (by kernel_rfl)
  have m5 : mg "quotedata" = some (.ref 135) := mg_of KX G (by kernel_rfl)
  refine fn_K ["lines", "pairs", "slack", "picks", "end"] KX lim (by kernel_rfl) rfl ?_ ?_
  · intro fd e vs hl
    match vs, hl with
    | [u, v, x, y, z], _ => cases e; rfl
  · intro C I
    show ExsD _ _ _ _ [("lines", .list (linesD P W)), ("pairs", .list (prs.map prD)), ("slack", .int slack), ("picks", .int picks), ("end", .str ⟨e.toArray⟩)] _ _
    conv => arg 6; whnf
    refine exs_ret (ex_for (src := .range 0 60) (ds := (List.range' 0 60).map fun (k : Nat) => D.int k) (ev_callT (ev_bi G m1 B bi.range I.scp (by kernel_rfl)) (evs_cons ev_int evs_nil) bi_range1) ?_ ?_)
    · rw [← List.range_eq_range']; exact iter_upto 60 (by decide)
    have hdl : ∀ P : List Nat, (prs.flatMap fun x => if isFree slack P x then [prD x] else []).length ≤ sizeLine := fun P => by
      rw [flat_filter, List.length_map, sizeLine_eq]; have := List.length_filter_le (isFree slack P) prs; omega
    suffices go : ∀ k P P', Run slack prs picks k P P' → Fits P.length prs → P.length ≤ 100 → WordsOk W P.length → ∀ j, k + j = 60 → ForD prog w h₀ C [("lines", .list (linesD P W)), ("pairs", .list (prs.map prD)), ("slack", .int slack), ("picks", .int picks), ("end", .str ⟨e.toArray⟩)] _ _ ((List.range' k j).map fun (k : Nat) => D.int k) (.ret (.list (linesD P' W))) from go 0 P P' T hf hn hW 60 rfl
    clear T hf hn hW
    intro k P P' T
    induction T with
    | @done k P hk hs e0 =>
      intro hf hn hW j hj
      obtain ⟨j, rfl⟩ : ∃ i, j = i + 1 := ⟨j - 1, by omega⟩
      rw [List.range'_succ, List.map_cons]
      refine for_head (o' := .ret _) (fun J => asg_name ((I.also J).sto _ (by kernel_rfl))) (fun J => ?_) rfl
      refine exs_cons (ex_assign (d := .list ((List.range P.length).map (leadD P W))) ?_ ((I.also J).sto _ (by kernel_rfl)) (swaps_of (I.also J).scp (by with_unfolding_all rfl))) ?_
      · refine (ev_comp (src := .list (linesD P W)) (List.range P.length) (fun k => .str (padded (P.getD k 0) (W.getD k (0, 0)).1 [(W.getD k (0, 0)).2])) (fun k => [leadD P W k]) (I.also J).scp (by kernel_rfl) (ev_name (by walk_at "m mem")) (.list _) ?_ ?_).eq ?_
        · rw [flat_one, List.length_map, List.length_range, sizeLine_eq]; omega
        · intro k hk Cc Jc
          have hk := List.mem_range.mp hk
          obtain ⟨w1, w2⟩ := hW k hk
          refine turn_all (asg_name (Jc.sto _ (by kernel_rfl))) (cap_put (by kernel_rfl)) (ev_callK KX (ev_glob G m3 Jc.scp (by kernel_rfl)) (by kernel_rfl) (evs_cons (ev_name (by walk_at "m mem")) evs_nil) (white_new KX lim G B bi (P.getD k 0) _ _ (by omega) (by omega) (by have := hs k; show P.getD k 0 + 1 ≤ 1000; omega)) ?_)
          rw [Jc.A]; exact (I.also J).room
        · rw [flat_one]
      refine exs_cons (ex_comp (src := .list (prs.map prD)) prs prD (fun y => if isFree slack P y then [prD y] else []) (I.also J).scp (by kernel_rfl) (ev_name (by walk_at "m mem")) (.list _) (hdl _) ?_ ((I.also J).sto _ (by kernel_rfl)) (swaps_of (I.also J).scp (by with_unfolding_all rfl))) ?_
      · intro x hx Cc Jc
        obtain ⟨f1, f2⟩ := hf x hx
        show TurnD _ _ _ _ _ _ _ _ (.tup [.int x.1, .int x.2]) _
        have hroom : Room Cc.A 2 := by rw [Jc.A]; exact (I.also J).room
        have l1 : ∀ {ρ : Vs} {e1 e2 : Expr} {p : Pos} {y : Nat}, y < P.length → EvD prog w h₀ Cc ρ e1 (.list ((List.range P.length).map (leadD P W))) → EvD prog w h₀ Cc ρ e2 (.int y) → (∀ o i', subscripted e2 false o i' = operate [o, i'] (getItem o i')) → EvD prog w h₀ Cc ρ (.Subscript e1 e2 p) (leadD P W y) :=
          fun hy h1 h2 h3 => ev_item_list h1 h2 (by omega) (by omega) (rangeD_get hy) h3
        refine (turn_if (d' := .tup [.int x.1, .int x.2]) (asg_two (Jc.sto _ (by kernel_rfl)) (Jc.sto _ (by kernel_rfl))) (cap_put2 (by kernel_rfl) (by kernel_rfl)) ((tr_and2 (tr_cmp (ev_meth KX clsOk (l1 f1 (ev_name (by walk_at "m mem")) (ev_name (by walk_at "m mem")) (by intro _ _; rfl)) (evs_cons (l1 f2 (ev_name (by walk_at "m mem")) (ev_name (by walk_at "m mem")) (by intro _ _; rfl)) evs_nil) (f := 90) (by kernel_rfl) (by kernel_rfl) (by kernel_rfl) (by decide +kernel) (less_fn KX lim _ _ _ _ _ _) (hroom.less (by decide))) ev_bool cmp_is_bool)
          fun _ => tr_cmp (ev_bin (ev_attr (d := .int (P.getD x.1 0 : Nat)) KX clsOk (l1 f1 (ev_name (by walk_at "m mem")) (ev_name (by walk_at "m mem")) (by intro _ _; rfl)) (by rfl) (clsA (by decide +kernel)) (fun u q => nomatch q)) (ev_attr (d := .int (P.getD x.2 0 : Nat)) KX clsOk (l1 f2 (ev_name (by walk_at "m mem")) (ev_name (by walk_at "m mem")) (by intro _ _; rfl)) (by rfl) (clsA (by decide +kernel)) (fun u q => nomatch q)) bin_sub_int) (ev_name (by walk_at "m mem")) cmp_le_int).eq (d' := isFree slack P x) ?_) fun _ => ?_)
        · exact free_is _ _ _
        · exact ev_tuple (evs_cons (ev_name (by walk_at "m mem")) (evs_cons (ev_name (by walk_at "m mem")) evs_nil)) (by show 2 ≤ sizeLine; decide)
      rw [flat_filter]
      change ExsD _ _ _ _ (put _ _ (.list ((freeL slack prs P).map prD))) _ _
      refine exs_ret (ex_if (c := true) ((tr_cmp (ev_name (by walk_at "m mem")) (ev_list evs_nil) (cmp_eq_data (okd_ok (pairs_okd _) (by decide)) (okd_ok nil_okd (by decide)) (by have := (I.also J).room.units; omega))).eq ?_) (fun _ => ?_) fun q => nomatch q)
      · rw [eqv_nil, e0]; rfl
      · exact exs_ret (ex_ret (ev_name (by walk_at "m mem")))
    | @turn k P P' x hk hs e0 h1 h2 T ih =>
      intro hf hn hW j hj
      obtain ⟨j, rfl⟩ : ∃ i, j = i + 1 := ⟨j - 1, by omega⟩
      have ih := ih (by rw [fire_length]; exact hf) (by rw [fire_length]; exact hn) (by rw [fire_length]; exact hW) j (by omega)
      rw [List.range'_succ, List.map_cons]
      refine' for_next (fun J => asg_name ((I.also J).sto _ (by kernel_rfl))) (fun J => ?_) ih
      refine exs_cons (ex_assign (d := .list ((List.range P.length).map (leadD P W))) ?_ ((I.also J).sto _ (by kernel_rfl)) (swaps_of (I.also J).scp (by with_unfolding_all rfl))) ?_
      · refine (ev_comp (src := .list (linesD P W)) (List.range P.length) (fun k => .str (padded (P.getD k 0) (W.getD k (0, 0)).1 [(W.getD k (0, 0)).2])) (fun k => [leadD P W k]) (I.also J).scp (by kernel_rfl) (ev_name (by walk_at "m mem")) (.list _) ?_ ?_).eq ?_
        · rw [flat_one, List.length_map, List.length_range, sizeLine_eq]; omega
        · intro k hk Cc Jc
          have hk := List.mem_range.mp hk
          obtain ⟨w1, w2⟩ := hW k hk
          refine turn_all (asg_name (Jc.sto _ (by kernel_rfl))) (cap_put (by kernel_rfl)) (ev_callK KX (ev_glob G m3 Jc.scp (by kernel_rfl)) (by kernel_rfl) (evs_cons (ev_name (by walk_at "m mem")) evs_nil) (white_new KX lim G B bi (P.getD k 0) _ _ (by omega) (by omega) (by have := hs k; show P.getD k 0 + 1 ≤ 1000; omega)) ?_)
          rw [Jc.A]; exact (I.also J).room
        · rw [flat_one]
      refine exs_cons (ex_comp (src := .list (prs.map prD)) prs prD (fun y => if isFree slack P y then [prD y] else []) (I.also J).scp (by kernel_rfl) (ev_name (by walk_at "m mem")) (.list _) (hdl _) ?_ ((I.also J).sto _ (by kernel_rfl)) (swaps_of (I.also J).scp (by with_unfolding_all rfl))) ?_
      · intro x hx Cc Jc
        obtain ⟨f1, f2⟩ := hf x hx
        show TurnD _ _ _ _ _ _ _ _ (.tup [.int x.1, .int x.2]) _
        have hroom : Room Cc.A 2 := by rw [Jc.A]; exact (I.also J).room
        have l1 : ∀ {ρ : Vs} {e1 e2 : Expr} {p : Pos} {y : Nat}, y < P.length → EvD prog w h₀ Cc ρ e1 (.list ((List.range P.length).map (leadD P W))) → EvD prog w h₀ Cc ρ e2 (.int y) → (∀ o i', subscripted e2 false o i' = operate [o, i'] (getItem o i')) → EvD prog w h₀ Cc ρ (.Subscript e1 e2 p) (leadD P W y) :=
          fun hy h1 h2 h3 => ev_item_list h1 h2 (by omega) (by omega) (rangeD_get hy) h3
        refine (turn_if (d' := .tup [.int x.1, .int x.2]) (asg_two (Jc.sto _ (by kernel_rfl)) (Jc.sto _ (by kernel_rfl))) (cap_put2 (by kernel_rfl) (by kernel_rfl)) ((tr_and2 (tr_cmp (ev_meth KX clsOk (l1 f1 (ev_name (by walk_at "m mem")) (ev_name (by walk_at "m mem")) (by intro _ _; rfl)) (evs_cons (l1 f2 (ev_name (by walk_at "m mem")) (ev_name (by walk_at "m mem")) (by intro _ _; rfl)) evs_nil) (f := 90) (by kernel_rfl) (by kernel_rfl) (by kernel_rfl) (by decide +kernel) (less_fn KX lim _ _ _ _ _ _) (hroom.less (by decide))) ev_bool cmp_is_bool)
          fun _ => tr_cmp (ev_bin (ev_attr (d := .int (P.getD x.1 0 : Nat)) KX clsOk (l1 f1 (ev_name (by walk_at "m mem")) (ev_name (by walk_at "m mem")) (by intro _ _; rfl)) (by rfl) (clsA (by decide +kernel)) (fun u q => nomatch q)) (ev_attr (d := .int (P.getD x.2 0 : Nat)) KX clsOk (l1 f2 (ev_name (by walk_at "m mem")) (ev_name (by walk_at "m mem")) (by intro _ _; rfl)) (by rfl) (clsA (by decide +kernel)) (fun u q => nomatch q)) bin_sub_int) (ev_name (by walk_at "m mem")) cmp_le_int).eq (d' := isFree slack P x) ?_) fun _ => ?_)
        · exact free_is _ _ _
        · exact ev_tuple (evs_cons (ev_name (by walk_at "m mem")) (evs_cons (ev_name (by walk_at "m mem")) evs_nil)) (by show 2 ≤ sizeLine; decide)
      rw [flat_filter]
      change ExsD _ _ _ _ (put _ _ (.list ((freeL slack prs P).map prD))) _ _
      have hx : x ∈ freeL slack prs P := List.mem_of_getElem? e0
      have hx' : x ∈ prs := (List.mem_filter.mp hx).1
      have hne : freeL slack prs P ≠ [] := fun q => by rw [q] at hx; cases hx
      have hlen : (freeL slack prs P).length ≠ 0 := fun q => hne (List.eq_nil_of_length_eq_zero q)
      have hlen2 : (freeL slack prs P).length ≤ 1000 := Nat.le_trans (List.length_filter_le _ _) hl
      obtain ⟨f1, f2⟩ := hf x hx'
      refine exs_cons (ex_if (c := false) ((tr_cmp (ev_name (by walk_at "m mem")) (ev_list evs_nil) (cmp_eq_data (okd_ok (pairs_okd _) (by decide)) (okd_ok nil_okd (by decide)) (by have := (I.also J).room.units; omega))).eq ?_) (fun q => nomatch q) fun _ => exs_nil) ?_
      · rw [eqv_nil]
        cases hq : freeL slack prs P with
        | nil => exact absurd hq hne
        | cons a b => rfl
      have hpos : (0 : Int) < (freeL slack prs P).length := by omega
      have hm0 : 0 ≤ (picks.fdiv (7 ^ k)).fmod ((freeL slack prs P).length : Int) := Int.fmod_nonneg_of_pos _ hpos
      have hm1 : (picks.fdiv (7 ^ k)).fmod ((freeL slack prs P).length : Int) < (freeL slack prs P).length := Int.fmod_lt_of_pos _ hpos
      refine exs_cons (ex_asgT (d := .tup [.int x.1, .int x.2]) (ev_item_list (k := (picks.fdiv (7 ^ k)).fmod ((freeL slack prs P).length : Int)) (ev_name (by walk_at "m mem")) (pick_ev hk hlen (ev_name (by walk_at "m mem")) (ev_name (by walk_at "m mem"))
        ((ev_callB (ev_bi G m2 B bi.len (I.also J).scp (by kernel_rfl)) (evs_cons (ev_name (by walk_at "m mem")) evs_nil) (bi_len_list (by rw [List.length_map]; omega))).eq (by rw [List.length_map]))) hm0 (by omega) (by rw [List.getElem?_map, e0]; rfl)) (asg_two ((I.also J).sto _ (by kernel_rfl)) ((I.also J).sto _ (by kernel_rfl)))) ?_
      obtain ⟨u1, u2⟩ := hW x.1 f1
      obtain ⟨v1, v2⟩ := hW x.2 f2
      have s1 := hs x.1
      have s2 := hs x.2
      have l1 : ∀ {ρ : Vs} {e1 e2 : Expr} {p : Pos} {y : Nat}, y < P.length → EvD prog w h₀ (C.also J) ρ e1 (.list (linesD P W)) → EvD prog w h₀ (C.also J) ρ e2 (.int y) → (∀ o i', subscripted e2 false o i' = operate [o, i'] (getItem o i')) → EvD prog w h₀ (C.also J) ρ (.Subscript e1 e2 p) (.str (padded (P.getD y 0) (W.getD y (0, 0)).1 [(W.getD y (0, 0)).2])) :=
        fun hy h1 h2 h3 => ev_item_list h1 h2 (by omega) (by omega) (rangeD_get hy) h3
      refine exs_cons (ex_assign (d := .str (padded (P.getD x.1 0 - 1) (W.getD x.1 (0, 0)).1 [(W.getD x.1 (0, 0)).2])) ((ev_callK KX (ev_glob G m4 (I.also J).scp (by kernel_rfl)) (by kernel_rfl) (evs_cons (l1 f1 (ev_name (by walk_at "m mem")) (ev_name (by walk_at "m mem")) (by intro _ _; rfl)) (evs_cons ev_int evs_nil)) (strip_fn KX lim G B bi.len (P.getD x.1 0) 1 _ _ (by omega) (last_two u2) (by show P.getD x.1 0 + 1 ≤ 1000; omega)) ((I.also J).room.less (by decide))).eq (by rw [Nat.min_eq_left h1])) ((I.also J).sto _ (by kernel_rfl)) (swaps_of (I.also J).scp (by with_unfolding_all rfl))) ?_
      refine exs_cons (ex_assign (d := .str (padded (P.getD x.2 0 + 1) (W.getD x.2 (0, 0)).1 [(W.getD x.2 (0, 0)).2])) ?_ ((I.also J).sto _ (by kernel_rfl)) (swaps_of (I.also J).scp (by with_unfolding_all rfl))) ?_
      · have hq := dots_size (c := (W.getD x.2 (0, 0)).1) (d := (W.getD x.2 (0, 0)).2) s2 he
        refine (ev_slice_str (a := none) (b := some (-2)) (x := ⟨(List.replicate (P.getD x.2 0 + 1) 32 ++ [(W.getD x.2 (0, 0)).1, (W.getD x.2 (0, 0)).2, 13, 10]).toArray⟩)
          ((ev_replace (x := ⟨(List.replicate (P.getD x.2 0 + 1) 46 ++ [(W.getD x.2 (0, 0)).1, (W.getD x.2 (0, 0)).2, 13, 10]).toArray⟩)
            ((ev_callK KX (ev_glob G m5 (I.also J).scp (by kernel_rfl)) (by kernel_rfl) (evs_cons (ev_bin ((ev_replace (l1 f2 (ev_name (by walk_at "m mem")) (ev_name (by walk_at "m mem")) (by intro _ _; rfl)) (by decide +kernel) ?_).eq (congrArg D.str (dots_text v1 v2))) (ev_name (by walk_at "m mem")) (bin_add_str ?_)) evs_nil)
              (quotedata_fn KX lim G _ hq) ((I.also J).room.less (by decide))).eq (congrArg D.str (quoted_dots h2 v1 v2 he))) (by decide +kernel) ?_).eq (congrArg D.str (blanks_text v1 v2))) part_none (part_some (ev_neg ev_int)) ?_).eq ?_
        · show (⟨(List.replicate _ _ ++ _).toArray⟩ : Str).length + ((⟨(List.replicate _ _ ++ _).toArray⟩ : Str).length + 1) * 1 ≤ _
          rw [rep_size]; simp only [List.length_cons, List.length_nil]; omega
        · rw [rep_size, sizeLine_eq]
          have := end_len he
          show _ + e.toArray.size ≤ _
          simp only [List.length_cons, List.length_nil, List.size_toArray]; omega
        · show _ + ((⟨(List.replicate _ _ ++ _).toArray⟩ : Str).length + 1) * 1 ≤ _
          rw [rep_size]; simp only [List.length_cons, List.length_nil]; omega
        · rw [rep_size, sizeLine_eq]; simp only [List.length_cons, List.length_nil]; omega
        · exact congrArg D.str (congrArg (fun l : List Nat => (⟨l.toArray⟩ : Str)) (cut_text _ _ _))
      refine exs_cons (ex_assign (d := .list (linesD (fire P x) W)) ?_ ((I.also J).sto _ (by kernel_rfl)) (swaps_of (I.also J).scp (by with_unfolding_all rfl))) (exs_nil.less (by walk_at "m sub"))
      refine (ev_comp (src := .range 0 P.length) (List.range P.length) (fun (k : Nat) => D.int k) (fun k => [D.str (padded (if k = x.1 then P.getD k 0 - 1 else if k = x.2 then P.getD k 0 + 1 else P.getD k 0) (W.getD k (0, 0)).1 [(W.getD k (0, 0)).2])]) (I.also J).scp (by kernel_rfl) ?_ (iter_upto _ (by omega)) ?_ ?_).eq ?_
      · exact ev_callT (ev_bi G m1 B bi.range (I.also J).scp (by kernel_rfl)) (evs_cons ((ev_callB (ev_bi G m2 B bi.len (I.also J).scp (by kernel_rfl)) (evs_cons (ev_name (by walk_at "m mem")) evs_nil) (bi_len_list (by unfold linesD; rw [List.length_map, List.length_range]; omega))).eq (by unfold linesD; rw [List.length_map, List.length_range])) evs_nil) bi_range1
      · rw [flat_one, List.length_map, List.length_range, sizeLine_eq]; omega
      · intro k hk Cc Jc
        have hk := List.mem_range.mp hk
        refine turn_all (asg_name (Jc.sto _ (by kernel_rfl))) (cap_put (by kernel_rfl)) (ev_if (ev_eqint (ev_name (by walk_at "m mem")) (ev_name (by walk_at "m mem"))) (fun q => ?_) fun q => ev_if (ev_eqint (ev_name (by walk_at "m mem")) (ev_name (by walk_at "m mem"))) (fun q' => ?_) fun q' => ?_)
        · have q := of_decide_eq_true q
          rw [if_pos q, q]
          exact ev_name (by walk_at "m mem")
        · have q := of_decide_eq_false q
          have q' := of_decide_eq_true q'
          rw [if_neg q, if_pos q', q']
          exact ev_name (by walk_at "m mem")
        · have q := of_decide_eq_false q
          have q' := of_decide_eq_false q'
          rw [if_neg q, if_neg q']
          exact ev_item_list (ds := linesD P W) (d := .str (padded (P.getD k 0) (W.getD k (0, 0)).1 [(W.getD k (0, 0)).2])) (ev_name (by walk_at "m mem")) (ev_name (by walk_at "m mem")) (by omega) (by omega) (rangeD_get hk)
      · rw [flat_one, fire_lines]
end
end Mine

set_option Elab.async false
set_option linter.unusedVariables false
set_option linter.unusedSimpArgs false
set_option maxRecDepth 100000
namespace Mine
open PySem.Challenge

local macro_rules | `(tactic| walk_at "m mem") => `(tactic| first
  | with_reducible exact put_head
  | with_reducible exact List.mem_cons_self
  | (with_reducible apply put_tail (h := by decide +kernel); walk_at "m mem")
  | (with_reducible refine List.mem_cons_of_mem _ ?_; walk_at "m mem")
  | (with_reducible refine cap_mem (by kernel_rfl) ?_; walk_at "m mem"))
local macro_rules | `(tactic| walk_at "m sub") => `(tactic| first
  | with_reducible exact allIn_nil
  | (with_reducible refine allIn_cons (by walk_at "m mem") ?_; walk_at "m sub"))

/-! what law builds -/
def sizeN (m : Nat) : Nat := 3 + min 2 (m / 2)
def numsS (script : List Int) : List Int := sliceL (script ++ sliceL [4, 0, 7, 2, 11] (some (script.length : Int)) none) none (some (sizeN script.length : Int))
def placeN (x : Int) : Nat := (4 + x.fmod 3).toNat
def rankI (x : Int) : Int := (x.fdiv 3).fmod 26
def charN (x : Int) : Nat := (97 + rankI x).toNat
def PL (nums : List Int) : List Nat := (List.range nums.length).map fun k => placeN (nums.getD k 0)
def WL (nums : List Int) : List (Nat × Nat) := (List.range nums.length).map fun k => (charN (nums.getD k 0), 107 + k)
def ltB (nums : List Int) (i j : Nat) : Bool := decide (rankI (nums.getD i 0) < rankI (nums.getD j 0) ∨ (rankI (nums.getD i 0) = rankI (nums.getD j 0) ∧ (i : Int) < j))
def due (nums : List Int) (i j : Nat) : Int := if i = j then 0 else if ltB nums i j then -1 else 1
def prsL (nums : List Int) : List (Nat × Nat) := (List.range nums.length).flatMap fun i => (List.range nums.length).flatMap fun j => if due nums i j == -1 then [(i, j)] else []
def slackI (nums : List Int) : Int := 1 + nums.sum.fmod 2
def endL (nums : List Int) : List Nat := if nums.sum.fmod 3 = 0 then [10] else if nums.sum.fmod 3 = 1 then [13] else [13, 10]

theorem sliceL_map {α β : Type} (f : α → β) (l : List α) (a b : Option Int) : (sliceL l a b).map f = sliceL (l.map f) a b := by
  unfold sliceL; rw [List.map_take, List.map_drop, List.length_map]
theorem sizeN_le (m : Nat) : 3 ≤ sizeN m ∧ sizeN m ≤ 5 := by unfold sizeN; omega
theorem numsS_length (script : List Int) : (numsS script).length = sizeN script.length := by
  have := sizeN_le script.length
  unfold numsS sliceL
  simp only [Option.elim, clip_nat, List.length_take, List.length_drop, List.length_append, List.length_cons, List.length_nil, Nat.sub_zero]
  omega
theorem rankI_lt (x : Int) : 0 ≤ rankI x ∧ rankI x < 26 := ⟨Int.fmod_nonneg_of_pos _ (by decide), Int.fmod_lt_of_pos _ (by decide)⟩
theorem endL_end (nums : List Int) : IsEnd (endL nums) := by
  unfold endL IsEnd
  split
  · exact .inl rfl
  · split
    · exact .inr (.inl rfl)
    · exact .inr (.inr rfl)
theorem getD_range {n k : Nat} {α : Type} {g : Nat → α} {d : α} (h : k < n) : ((List.range n).map g).getD k d = g k := by
  rw [List.getD_eq_getElem?_getD, List.getElem?_map, List.getElem?_range h]; rfl
theorem ints_getD {nums : List Int} {k : Nat} (h : k < nums.length) : (nums.map D.int)[(k : Int).toNat]? = some (.int (nums.getD k 0)) := by
  rw [Int.toNat_natCast, List.getElem?_map, List.getD_eq_getElem?_getD, List.getElem?_eq_getElem h]; rfl

theorem map_range_getD {α β : Type} (f : α → β) (d : α) (l : List α) : (List.range l.length).map (fun k => f (l.getD k d)) = l.map f := by
  apply List.ext_getElem
  · simp
  · intro i h1 h2
    simp at h1
    simp [List.getD_eq_getElem?_getD, h1]
theorem PL_int (nums : List Int) : nums.map (fun x => D.int (4 + x.fmod 3)) = intsD (PL nums) := by
  unfold PL intsD
  rw [map_range_getD, List.map_map]
  refine List.map_congr_left fun x _ => ?_
  have := Int.fmod_nonneg_of_pos x (b := 3) (by decide)
  show D.int _ = D.int ((4 + x.fmod 3).toNat : Int)
  rw [Int.toNat_of_nonneg (by omega)]

theorem PL_small (nums : List Int) : ∀ k, (PL nums).getD k 0 ≤ 6 := fun k => by
  unfold PL
  rcases Nat.lt_or_ge k nums.length with h | h
  · rw [getD_range h]
    have := Int.fmod_lt_of_pos (nums.getD k 0) (b := 3) (by decide)
    unfold placeN; omega
  · rw [List.getD_eq_getElem?_getD, List.getElem?_eq_none (by simpa using h)]; exact Nat.zero_le _
theorem lt_two (a b c d : Nat) : ([a, b] < [c, d]) ↔ (a < c ∨ (a = c ∧ b < d)) := by
  rw [List.cons_lt_cons_iff, List.cons_lt_cons_iff]
  simp
theorem sign_due (nums : List Int) (i j : Nat) : cmpI ⟨#[charN (nums.getD i 0), 107 + i]⟩ ⟨#[charN (nums.getD j 0), 107 + j]⟩ = due nums i j := by
  have h1 := rankI_lt (nums.getD i 0)
  have h2 := rankI_lt (nums.getD j 0)
  unfold cmpI due ltB
  show (if decide ([charN (nums.getD j 0), 107 + j] < [charN (nums.getD i 0), 107 + i]) then (1 : Int) else 0) - (if decide ([charN (nums.getD i 0), 107 + i] < [charN (nums.getD j 0), 107 + j]) then 1 else 0) = _
  simp only [decide_eq_true_eq, lt_two]
  by_cases hij : i = j
  · subst hij; simp
  · rw [if_neg hij]
    unfold charN
    split <;> split <;> split <;> omega

theorem flatMap_len {α β : Type} (f : α → List β) (B : Nat) : ∀ l : List α, (∀ x ∈ l, (f x).length ≤ B) → (l.flatMap f).length ≤ l.length * B
  | [], _ => by simp
  | x :: l, h => by
    have := flatMap_len f B l fun y hy => h y (.tail _ hy)
    have := h x (.head _)
    rw [List.flatMap_cons, List.length_append, List.length_cons, Nat.succ_mul]
    omega
theorem prs_len {β : Type} (nums : List Int) (n : Nat) (g : Nat → Nat → β) : ((List.range n).flatMap fun i => (List.range n).flatMap fun j => if due nums i j == -1 then [g i j] else []).length ≤ n * n := by
  have := flatMap_len (fun i => (List.range n).flatMap fun j => if due nums i j == -1 then [g i j] else []) n (List.range n) fun i _ => by
    have := flatMap_len (fun j => if due nums i j == -1 then [g i j] else []) 1 (List.range n) fun j _ => by split <;> simp
    rw [List.length_range] at this; omega
  rwa [List.length_range] at this
theorem prs_size (nums : List Int) (n : Nat) (h : n ≤ 5) : ((List.range n).flatMap fun i => (List.range n).flatMap fun j => if due nums i j == -1 then [prD (i, j)] else []).length ≤ sizeLine := by
  have := prs_len nums n fun i j => prD (i, j)
  have h25 : n * n ≤ 5 * 5 := Nat.mul_le_mul h h
  rw [sizeLine_eq]; omega
theorem prsL_len (nums : List Int) : (prsL nums).length ≤ nums.length * nums.length := prs_len nums nums.length fun i j => (i, j)
theorem prsL_map (nums : List Int) : ((List.range nums.length).flatMap fun i => (List.range nums.length).flatMap fun j => if due nums i j == -1 then [prD (i, j)] else []) = (prsL nums).map prD := by
  unfold prsL
  rw [List.map_flatMap]
  congr 1
  funext i
  rw [List.map_flatMap]
  congr 1
  funext j
  split <;> rfl
theorem prsL_mem (nums : List Int) (x : Nat × Nat) : x ∈ prsL nums ↔ x.1 < nums.length ∧ x.2 < nums.length ∧ due nums x.1 x.2 = -1 := by
  unfold prsL
  simp only [List.mem_flatMap, List.mem_range]
  constructor
  · rintro ⟨i, hi, j, hj, h⟩
    split at h
    · rename_i q
      simp only [List.mem_cons, List.not_mem_nil, or_false] at h
      subst h
      exact ⟨hi, hj, beq_iff_eq.mp q⟩
    · cases h
  · rintro ⟨hi, hj, h⟩
    exact ⟨x.1, hi, x.2, hj, by rw [if_pos (beq_iff_eq.mpr h)]; simp⟩
theorem prsL_fits (nums : List Int) : Fits nums.length (prsL nums) := fun x hx => ⟨((prsL_mem nums x).mp hx).1, ((prsL_mem nums x).mp hx).2.1⟩
theorem told_length {slack : Int} {prs : List (Nat × Nat)} {P P' : List Nat} (T : Told slack prs P P') : P.length = P'.length := by
  induction T with
  | done _ => rfl
  | turn _ _ _ ih => rw [← ih, fire_length]
theorem run_small {slack picks : Int} {prs : List (Nat × Nat)} {k : Nat} {P P' : List Nat} (T : Run slack prs picks k P P') : Small P' := by
  induction T with
  | done _ h _ => exact h
  | turn _ _ _ _ _ _ ih => exact ih
theorem lineS_ok {P : List Nat} {W : List (Nat × Nat)} {k : Nat} (h1 : (W.getD k (0, 0)).1 < 0x110000) (h2 : (W.getD k (0, 0)).2 < 0x110000) : PyData.strOk (lineS P W k) = true := by
  unfold PyData.strOk lineS padded
  rw [Array.all_eq_true']
  intro x hx
  simp only [List.mem_toArray, List.mem_append, List.mem_replicate, List.mem_cons, List.not_mem_nil, or_false] at hx
  exact decide_eq_true (by omega)
theorem cap_put3 {scope sc : Scope} {ρ : Vs} {x y : Str} {d e : D} (hy : ownIn scope y = true) (hxy : (x == y) = false) : ∀ q ∈ put (cap scope sc ρ) x d, q ∈ put (put (cap scope sc ρ) x d) y e := fun q hq => by
  obtain ⟨z, f⟩ := q
  refine put_tail ?_ hq
  rcases put_inv hq with e | ⟨h, _⟩
  · cases e; exact hxy
  · exact cap_ne hy h

section
variable {prog : Program} {w : World} {h₀ : Heap} {mg mb : Str → Option Value} {C : Cx} {ρ : Vs}

theorem law_body (KX : (KK w).In h₀) (lim : h₀.NoLimit) (G : h₀.Ns mainGlobals mg) (B : h₀.Ns builtinsNs mb) (bi : Bis mb) (script : List Int) (hsc : script.length ≤ 63) (P' : List Nat)
    (T : Told (slackI (numsS script)) (prsL (numsS script)) (PL (numsS script)) P') (R0 : Run (slackI (numsS script)) (prsL (numsS script)) 0 0 (PL (numsS script)) P') (R1 : Run (slackI (numsS script)) (prsL (numsS script)) script.sum 0 (PL (numsS script)) P') :
    ∀ C, InFn C (scAt (KK w) 150) 3 → ExsD prog w h₀ C [("script", .list (script.map D.int))] (bdAt (KK w) 150) (.ret (.bool true)) := by
  have b1 : mg "range" = none := mg_none_of KX G (by kernel_rfl)
  have b2 : mg "len" = none := mg_none_of KX G (by kernel_rfl)
  have b3 : mg "min" = none := mg_none_of KX G (by kernel_rfl)
  have b4 : mg "sum" = none := mg_none_of KX G (by kernel_rfl)
  have b5 : mg "chr" = none := mg_none_of KX G (by kernel_rfl)
  have g1 : mg "_strcoll" = some (.ref 111) := mg_of KX G (by kernel_rfl)
  have g2 : mg "_law_told" = some (.ref 145) := mg_of KX G (by kernel_rfl)
  have g3 : mg "_law_run" = some (.ref 140) := mg_of KX G (by kernel_rfl)
  · intro C I
    conv => arg 6; whnf
    have hn := numsS_length script
    have hsz := sizeN_le script.length
    have elen : ∀ {C : Cx} {ρ : Vs} {p1 p2 p3 : Pos}, C.env.scope = scAt (KK w) 150 → (("script" : Str), D.list (script.map D.int)) ∈ ρ → EvD prog w h₀ C ρ (.Call (.Name "len" p1) [.Name "script" p2] [] p3) (.int script.length) := fun hs hm =>
      (ev_callB (ev_bi G b2 B bi.len hs (by kernel_rfl)) (evs_cons (ev_name hm) evs_nil) (bi_len_list (by rw [List.length_map]; omega))).eq (by rw [List.length_map])
    refine exs_cons (ex_assign (d := .int (sizeN script.length : Nat)) ((ev_bin ev_int (ev_callB (ev_bi G b3 B bi.min I.scp (by kernel_rfl)) (evs_cons ev_int (evs_cons (ev_bin (elen I.scp (by walk_at "m mem")) ev_int (bin_floordiv (by decide) (by decide +kernel))) evs_nil)) bi_min2) bin_add_int).eq ?_) (I.sto _ (by kernel_rfl)) (swaps_of I.scp (by with_unfolding_all rfl))) ?_
    · unfold sizeN
      congr 1
      have : (script.length : Int).fdiv 2 = ((script.length / 2 : Nat) : Int) := by rw [Int.fdiv_eq_ediv_of_nonneg _ (by decide)]; rfl
      rw [this]; omega
    refine exs_cons (ex_assign (d := .list ((numsS script).map D.int)) ((ev_slice_list (a := none) (b := some (sizeN script.length : Nat)) (ev_bin (ev_name (by walk_at "m mem")) (ev_slice_list (ds := [4, 0, 7, 2, 11].map D.int) (a := some script.length) (b := none) (ev_list (evs_cons ev_int (evs_cons ev_int (evs_cons ev_int (evs_cons ev_int (evs_cons ev_int evs_nil)))))) (part_some (elen I.scp (by walk_at "m mem"))) part_none (by decide)) (bin_list_add ?_)) part_none (part_some (ev_name (by walk_at "m mem"))) ?_).eq ?_) (I.sto _ (by kernel_rfl)) (swaps_of I.scp (by with_unfolding_all rfl))) ?_
    · have := sliceL_length ([4, 0, 7, 2, 11].map D.int) (some script.length) none
      rw [sizeLine_eq]; simp only [List.length_map, List.length_cons, List.length_nil] at this ⊢; omega
    · have := sliceL_length ([4, 0, 7, 2, 11].map D.int) (some script.length) none
      rw [sizeLine_eq, List.length_append]; simp only [List.length_map, List.length_cons, List.length_nil] at this ⊢; omega
    · unfold numsS
      rw [sliceL_map, List.map_append, sliceL_map]
    generalize hnums : numsS script = nums at *
    rw [← hn] at hsz ⊢
    clear hn hnums
    generalize hN : nums.length = n at *
    have esum : ∀ {C : Cx} {ρ : Vs} {p1 p2 p3 : Pos}, C.env.scope = scAt (KK w) 150 → (("numbers" : Str), D.list (nums.map D.int)) ∈ ρ → EvD prog w h₀ C ρ (.Call (.Name "sum" p1) [.Name "numbers" p2] [] p3) (.int nums.sum) := fun hs hm =>
      ev_callB (ev_bi G b4 B bi.sum hs (by kernel_rfl)) (evs_cons (ev_name hm) evs_nil) bi_sum
    have erange : ∀ {C : Cx} {ρ : Vs} {p1 p2 p3 : Pos} {sc : Scope}, C.env.scope = sc → sc.names.lookup ("range" : Str) = some .globalImplicit → (("size" : Str), D.int n) ∈ ρ → EvD prog w h₀ C ρ (.Call (.Name "range" p1) [.Name "size" p2] [] p3) (.range 0 n) := fun hs hl hm =>
      ev_callT (ev_bi G b1 B bi.range hs hl) (evs_cons (ev_name hm) evs_nil) bi_range1
    have hm0 : 0 ≤ nums.sum.fmod 3 := Int.fmod_nonneg_of_pos _ (by decide)
    have hm1 : nums.sum.fmod 3 < 3 := Int.fmod_lt_of_pos _ (by decide)
    refine exs_cons (ex_swap2 (x := "slack") (y := "end") (a := .int (slackI nums)) (b := .str ⟨(endL nums).toArray⟩)
      (ev_tuple (evs_cons (ev_bin ev_int (ev_bin (esum I.scp (by walk_at "m mem")) ev_int (bin_mod (by decide))) bin_add_int) (evs_cons (ev_item_tup (ds := [.str ⟨#[10]⟩, .str ⟨#[13]⟩, .str ⟨#[13, 10]⟩]) (ev_tuple (evs_cons ev_str (evs_cons ev_str (evs_cons ev_str evs_nil))) (by show 3 ≤ sizeLine; decide)) (ev_bin (esum I.scp (by walk_at "m mem")) ev_int (bin_mod (by decide))) hm0 (by omega) ?_) evs_nil)) (by show 2 ≤ sizeLine; decide))
      (I.sto _ (by kernel_rfl)) (I.sto _ (by kernel_rfl)) (swapsSole_of I.scp (by with_unfolding_all rfl)) (swapped_of I.scp (by with_unfolding_all rfl))) ?_
    · unfold endL
      generalize nums.sum.fmod 3 = m at *
      rcases (by omega : m = 0 ∨ m = 1 ∨ m = 2) with rfl | rfl | rfl <;> rfl
    have hnum : ∀ {C : Cx} {ρ : Vs} {k : Nat} {p1 p2 p3 : Pos} {y : Str}, k < n → (("numbers" : Str), D.list (nums.map D.int)) ∈ ρ → EvD prog w h₀ C ρ (.Name y p2) (.int k) → (∀ o i', subscripted (.Name y p2) false o i' = operate [o, i'] (getItem o i')) → EvD prog w h₀ C ρ (.Subscript (.Name "numbers" p1) (.Name y p2) p3) (.int (nums.getD k 0)) := fun hk hm h2 h3 =>
      ev_item_list (ev_name hm) h2 (by omega) (by omega) (ints_getD (by omega)) h3
    refine exs_cons (ex_assign (d := .list (intsD (PL nums))) ?_ (I.sto _ (by kernel_rfl)) (swaps_of I.scp (by with_unfolding_all rfl))) ?_
    · refine (ev_comp (src := .list (nums.map D.int)) nums D.int (fun x => [.int (4 + x.fmod 3)]) I.scp (by kernel_rfl) (ev_name (by walk_at "m mem")) (.list _) ?_ ?_).eq ?_
      · rw [flat_one, List.length_map, sizeLine_eq]; omega
      · intro x hx Cc J
        exact turn_all (asg_name (J.sto _ (by kernel_rfl))) (cap_put (by kernel_rfl)) (ev_bin ev_int (ev_bin (ev_name (by walk_at "m mem")) ev_int (bin_mod (by decide))) bin_add_int)
      · rw [flat_one, PL_int]
    have cb : ∀ k, 97 ≤ charN (nums.getD k 0) ∧ charN (nums.getD k 0) ≤ 122 := fun k => by have := rankI_lt (nums.getD k 0); unfold charN; omega
    refine exs_cons (ex_assign (d := .list ((List.range n).map fun k => .str ⟨#[charN (nums.getD k 0), 107 + k]⟩)) ?_ (I.sto _ (by kernel_rfl)) (swaps_of I.scp (by with_unfolding_all rfl))) ?_
    · refine (ev_comp (src := .range 0 n) (List.range n) (fun (k : Nat) => D.int k) (fun k => [.str ⟨#[charN (nums.getD k 0), 107 + k]⟩]) I.scp (by kernel_rfl) (erange I.scp (by kernel_rfl) (by walk_at "m mem")) (iter_upto _ (by omega)) ?_ ?_).eq ?_
      · rw [flat_one, List.length_map, List.length_range, sizeLine_eq]; omega
      · intro k hk Cc J
        have hk := List.mem_range.mp hk
        have hr := rankI_lt (nums.getD k 0)
        refine turn_all (asg_name (J.sto _ (by kernel_rfl))) (cap_put (by kernel_rfl)) ((ev_bin (ev_callB (ev_bi G b5 B bi.chr J.scp (by kernel_rfl)) (evs_cons (ev_bin ev_int (ev_bin (ev_bin (hnum hk (by walk_at "m mem") (ev_name (by walk_at "m mem")) (by intro _ _; rfl)) ev_int (bin_floordiv (by decide) (by decide +kernel))) ev_int (bin_mod (by decide))) bin_add_int) evs_nil) (bi_chr ?_ ?_)) (ev_item_str (x := "klmno") (c := 107 + k) ev_str (ev_name (by walk_at "m mem")) (by omega) (by omega) ?_) (bin_add_str ?_)).eq rfl)
        · show 0 ≤ 97 + rankI (nums.getD k 0); omega
        · show 97 + rankI (nums.getD k 0) ≤ _; omega
        · rw [Int.toNat_natCast]
          rcases (by omega : k = 0 ∨ k = 1 ∨ k = 2 ∨ k = 3 ∨ k = 4) with rfl | rfl | rfl | rfl | rfl <;> decide +kernel
        · show 1 + 1 ≤ sizeLine; decide
      · rw [flat_one]
    have hPL : (PL nums).length = n := by unfold PL; rw [List.length_map, List.length_range, hN]
    have hWL : ∀ k, k < n → (WL nums).getD k (0, 0) = (charN (nums.getD k 0), 107 + k) := fun k hk => by unfold WL; rw [hN]; exact getD_range hk
    -- a line: blanks, then the word
    have eline : ∀ {C : Cx} {ρ : Vs} {P : List Nat} {x y : Str} {k k1 : Nat} {p1 p2 p3 p4 p5 p6 p7 p8 p9 : Pos}, k < n → k < P.length → P.getD k 0 ≤ 100 → EvD prog w h₀ C ρ (.Name x p2) (.list (intsD P)) → (("words" : Str), D.list ((List.range n).map fun k => .str ⟨#[charN (nums.getD k 0), 107 + k]⟩)) ∈ ρ → EvD prog w h₀ C ρ (.Name y p3) (.int k) → EvD prog w h₀ C ρ (.Name y p6) (.int k) →
        (∀ p o i', subscripted (.Name y p) false o i' = operate [o, i'] (getItem o i')) →
        EvD prog w h₀ C ρ (.BinOp (.BinOp (.Constant (.str " ") k1 p1) .Mult (.Subscript (.Name x p2) (.Name y p3) p4) p5) .Add (.Subscript (.Name "words" p7) (.Name y p6) p8) p9) (.str (lineS P (WL nums) k)) := by
      intro C ρ P x y k k1 p1 p2 p3 p4 p5 p6 p7 p8 p9 hk hkP hP e1 hm e2 e2' hs
      refine (ev_bin (ev_bin (ev_str (x := ⟨#[32]⟩)) (ev_item_list e1 e2 (by omega) (by omega) (intsD_get hkP) (hs _)) (bin_str_mul (by omega) (by omega))) (ev_item_list (ev_name hm) e2' (by omega) (by omega) (rangeD_get hk) (hs _)) (bin_add_str ?_)).eq ?_
      · show (List.replicate _ _).toArray.size + 2 ≤ sizeLine
        rw [sizeLine_eq, List.size_toArray, List.length_replicate]; omega
      · unfold lineS
        rw [hWL k hk, Int.toNat_natCast]
        refine congrArg D.str (str_ext ?_)
        show ((List.replicate _ 32).toArray ++ #[_, _]).toList = List.replicate _ 32 ++ _ :: [_]
        simp
    refine exs_cons (ex_comp (src := .range 0 n) (List.range n) (fun (k : Nat) => D.int k) (fun k => [.str (lineS (PL nums) (WL nums) k)]) I.scp (by kernel_rfl) (erange I.scp (by kernel_rfl) (by walk_at "m mem")) (iter_upto _ (by omega)) ?_ ?_ (I.sto _ (by kernel_rfl)) (swaps_of I.scp (by with_unfolding_all rfl))) ?_
    · rw [flat_one, List.length_map, List.length_range, sizeLine_eq]; omega
    · intro k hk Cc J
      have hk := List.mem_range.mp hk
      refine turn_all (asg_name (J.sto _ (by kernel_rfl))) (cap_put (by kernel_rfl)) (eline hk (by omega) ?_ (ev_name (by walk_at "m mem")) (by walk_at "m mem") (ev_name (by walk_at "m mem")) (ev_name (by walk_at "m mem")) (by intro _ _ _; rfl))
      have := PL_small nums k
      omega
    have hlines : ((List.range n).flatMap fun k => [D.str (lineS (PL nums) (WL nums) k)]) = linesD (PL nums) (WL nums) := by rw [flat_one]; unfold linesD; rw [hPL]
    rw [hlines]
    refine exs_cons (ex_assign (d := .list ((List.range n).map fun (k : Nat) => .tup [.int (rankI (nums.getD k 0)), .int k])) ?_ (I.sto _ (by kernel_rfl)) (swaps_of I.scp (by with_unfolding_all rfl))) ?_
    · refine (ev_comp (src := .range 0 n) (List.range n) (fun (k : Nat) => D.int k) (fun k => [.tup [.int (rankI (nums.getD k 0)), .int k]]) I.scp (by kernel_rfl) (erange I.scp (by kernel_rfl) (by walk_at "m mem")) (iter_upto _ (by omega)) ?_ ?_).eq ?_
      · rw [flat_one, List.length_map, List.length_range, sizeLine_eq]; omega
      · intro k hk Cc J
        have hk := List.mem_range.mp hk
        exact turn_all (asg_name (J.sto _ (by kernel_rfl))) (cap_put (by kernel_rfl)) (ev_tuple (evs_cons (ev_bin (ev_bin (hnum hk (by walk_at "m mem") (ev_name (by walk_at "m mem")) (by intro _ _; rfl)) ev_int (bin_floordiv (by decide) (by decide +kernel))) ev_int (bin_mod (by decide))) (evs_cons (ev_name (by walk_at "m mem")) evs_nil)) (by show 2 ≤ sizeLine; decide))
      · rw [flat_one]
    have hroom : Room C.A 3 := I.room
    refine exs_cons (ex_assign (d := .list ((List.range n).map fun i => .list ((List.range n).map fun j => .int (due nums i j)))) ?_ (I.sto _ (by kernel_rfl)) (swaps_of I.scp (by with_unfolding_all rfl))) ?_
    · refine (ev_comp (src := .list ((List.range n).map fun k => .str ⟨#[charN (nums.getD k 0), 107 + k]⟩)) (List.range n) (fun (k : Nat) => D.str ⟨#[charN (nums.getD k 0), 107 + k]⟩) (fun i => [.list ((List.range n).map fun j => .int (due nums i j))]) I.scp (by kernel_rfl) (ev_name (by walk_at "m mem")) (.list _) ?_ ?_).eq ?_
      · rw [flat_one, List.length_map, List.length_range, sizeLine_eq]; omega
      · intro i hi Cc J
        have hi := List.mem_range.mp hi
        refine turn_all (asg_name (J.sto _ (by kernel_rfl))) (cap_put (by kernel_rfl)) ((ev_comp (src := .list ((List.range n).map fun k => .str ⟨#[charN (nums.getD k 0), 107 + k]⟩)) (List.range n) (fun (k : Nat) => D.str ⟨#[charN (nums.getD k 0), 107 + k]⟩) (fun j => [.int (due nums i j)]) J.scp (by kernel_rfl) (ev_name (by walk_at "m mem")) (.list _) ?_ ?_).eq ?_)
        · rw [flat_one, List.length_map, List.length_range, sizeLine_eq]; omega
        · intro j hj Cd K
          have hj := List.mem_range.mp hj
          have hr : Room Cd.A 1 := by rw [K.A, J.A]; exact hroom.less (by decide)
          refine turn_all (asg_name (K.sto _ (by kernel_rfl))) (cap_put (by kernel_rfl)) ((ev_callK KX (ev_glob G g1 K.scp (by kernel_rfl)) (by kernel_rfl) (evs_cons (ev_name (by walk_at "m mem")) (evs_cons (ev_name (by walk_at "m mem")) evs_nil)) (strcoll_fn KX lim _ _) hr).eq ?_)
          rw [sign_due nums i j]
        · rw [flat_one]
      · rw [flat_one]
    refine exs_cons (ex_assign (d := .list ((List.range n).map fun i => .list ((List.range n).map fun j => .int (due nums i j)))) ?_ (I.sto _ (by kernel_rfl)) (swaps_of I.scp (by with_unfolding_all rfl))) ?_
    · refine (ev_comp (src := .range 0 n) (List.range n) (fun (k : Nat) => D.int k) (fun i => [.list ((List.range n).map fun j => .int (due nums i j))]) I.scp (by kernel_rfl) (erange I.scp (by kernel_rfl) (by walk_at "m mem")) (iter_upto _ (by omega)) ?_ ?_).eq ?_
      · rw [flat_one, List.length_map, List.length_range, sizeLine_eq]; omega
      · intro i hi Cc J
        have hi := List.mem_range.mp hi
        refine turn_all (asg_name (J.sto _ (by kernel_rfl))) (cap_put (by kernel_rfl)) ((ev_comp (src := .range 0 n) (List.range n) (fun (k : Nat) => D.int k) (fun j => [.int (due nums i j)]) J.scp (by kernel_rfl) (erange J.scp (by kernel_rfl) (by walk_at "m mem")) (iter_upto _ (by omega)) ?_ ?_).eq ?_)
        · rw [flat_one, List.length_map, List.length_range, sizeLine_eq]; omega
        · intro j hj Cd K
          have hj := List.mem_range.mp hj
          have hr : Room Cd.A 1 := by rw [K.A, J.A]; exact hroom.less (by decide)
          refine turn_all (asg_name (K.sto _ (by kernel_rfl))) (cap_put (by kernel_rfl)) (ev_if (ev_eqint (ev_name (by walk_at "m mem")) (ev_name (by walk_at "m mem"))) (fun q => ?_) fun q => ev_if (c := ltB nums i j) (tr_cmp (ev_item_list (d := .tup [.int (rankI (nums.getD i 0)), .int i]) (ev_name (by walk_at "m mem")) (ev_name (by walk_at "m mem")) (by omega) (by omega) (rangeD_get hi)) (ev_item_list (d := .tup [.int (rankI (nums.getD j 0)), .int j]) (ev_name (by walk_at "m mem")) (ev_name (by walk_at "m mem")) (by omega) (by omega) (rangeD_get hj)) (cmp_lt_pair hr)) (fun q' => ?_) fun q' => ?_)
          · exact ev_int.eq (by unfold due; rw [if_pos (of_decide_eq_true q)])
          · exact (ev_neg ev_int).eq (by unfold due; rw [if_neg (of_decide_eq_false q), if_pos q'])
          · exact ev_int.eq (by unfold due; rw [if_neg (of_decide_eq_false q), if_neg (by rw [q']; decide)])
        · rw [flat_one]
      · rw [flat_one]
    refine exs_cons (ex_comp2 (src := .range 0 n) (List.range n) (fun (k : Nat) => D.int k) (fun _ => List.range n) (fun _ (k : Nat) => D.int k) (fun i j => if due nums i j == -1 then [prD (i, j)] else []) I.scp (by kernel_rfl) (erange I.scp (by kernel_rfl) (by walk_at "m mem")) (iter_upto _ (by omega)) (prs_size nums n (by omega)) ?_ (I.sto _ (by kernel_rfl)) (swaps_of I.scp (by with_unfolding_all rfl))) ?_
    · intro i hi Cc J
      have hi := List.mem_range.mp hi
      refine ⟨_, true, asg_name (J.sto _ (by kernel_rfl)), cap_put (by kernel_rfl), ifs_none, (fun q => nomatch q), fun _ => ⟨.range 0 n, erange J.scp (by kernel_rfl) (by walk_at "m mem"), iter_upto _ (by omega), fun j hj Cd K => ?_⟩⟩
      have hj := List.mem_range.mp hj
      refine turn_if (d' := .tup [.int i, .int j]) (asg_name (K.sto _ (by kernel_rfl))) (cap_put3 (by kernel_rfl) (by decide +kernel)) (tr_cmp (ev_item_list (d := .int (due nums i j)) (ev_item_list (d := .list ((List.range n).map fun j => .int (due nums i j))) (ev_name (by walk_at "m mem")) (ev_name (by walk_at "m mem")) (by omega) (by omega) (rangeD_get hi)) (ev_name (by walk_at "m mem")) (by omega) (by omega) (rangeD_get hj)) (ev_neg ev_int) cmp_eq_int) fun _ => ?_
      exact ev_tuple (evs_cons (ev_name (by walk_at "m mem")) (evs_cons (ev_name (by walk_at "m mem")) evs_nil)) (by show 2 ≤ sizeLine; decide)
    have hprs : ((List.range n).flatMap fun i => (List.range n).flatMap fun j => if due nums i j == -1 then [prD (i, j)] else []) = (prsL nums).map prD := by rw [← hN]; exact prsL_map nums
    rw [hprs]
    have hfits : Fits (PL nums).length (prsL nums) := by rw [hPL, ← hN]; exact prsL_fits nums
    have hprl : (prsL nums).length ≤ 1000 := by
      have := prsL_len nums
      rw [hN] at this
      have h25 : n * n ≤ 5 * 5 := Nat.mul_le_mul (by omega) (by omega)
      omega
    refine exs_cons (ex_assign (d := .list (intsD P')) (ev_callK KX (ev_glob G g2 I.scp (by kernel_rfl)) (by kernel_rfl) (evs_cons (ev_name (by walk_at "m mem")) (evs_cons (d := .list ((prsL nums).map prD)) ?_ (evs_cons (ev_name (by walk_at "m mem")) evs_nil))) (told_fn KX lim G B bi T hfits (by omega) hprl) (hroom.less (by decide))) (I.sto _ (by kernel_rfl)) (swaps_of I.scp (by with_unfolding_all rfl))) ?_
    · refine (ev_comp2 (src := .range 0 n) (List.range n) (fun (k : Nat) => D.int k) (fun _ => List.range n) (fun _ (k : Nat) => D.int k) (fun i j => if due nums i j == -1 then [prD (i, j)] else []) I.scp (by kernel_rfl) (erange I.scp (by kernel_rfl) (by walk_at "m mem")) (iter_upto _ (by omega)) (prs_size nums n (by omega)) ?_).eq (congrArg D.list hprs)
      intro i hi Cc J
      have hi := List.mem_range.mp hi
      refine ⟨_, true, asg_name (J.sto _ (by kernel_rfl)), cap_put (by kernel_rfl), ifs_none, (fun q => nomatch q), fun _ => ⟨.range 0 n, erange J.scp (by kernel_rfl) (by walk_at "m mem"), iter_upto _ (by omega), fun j hj Cd K => ?_⟩⟩
      have hj := List.mem_range.mp hj
      refine turn_if (d' := .tup [.int i, .int j]) (asg_name (K.sto _ (by kernel_rfl))) (cap_put3 (by kernel_rfl) (by decide +kernel)) (tr_cmp (ev_item_list (d := .int (due nums i j)) (ev_item_list (d := .list ((List.range n).map fun j => .int (due nums i j))) (ev_name (by walk_at "m mem")) (ev_name (by walk_at "m mem")) (by omega) (by omega) (rangeD_get hi)) (ev_name (by walk_at "m mem")) (by omega) (by omega) (rangeD_get hj)) (ev_neg ev_int) cmp_eq_int) fun _ => ?_
      exact ev_tuple (evs_cons (ev_name (by walk_at "m mem")) (evs_cons (ev_name (by walk_at "m mem")) evs_nil)) (by show 2 ≤ sizeLine; decide)
    have hP'l : P'.length = n := by rw [← told_length T, hPL]
    have hP's : Small P' := run_small R0
    refine exs_cons (ex_comp (src := .range 0 n) (List.range n) (fun (k : Nat) => D.int k) (fun k => [.str (lineS P' (WL nums) k)]) I.scp (by kernel_rfl) (erange I.scp (by kernel_rfl) (by walk_at "m mem")) (iter_upto _ (by omega)) ?_ ?_ (I.sto _ (by kernel_rfl)) (swaps_of I.scp (by with_unfolding_all rfl))) ?_
    · rw [flat_one, List.length_map, List.length_range, sizeLine_eq]; omega
    · intro k hk Cc J
      have hk := List.mem_range.mp hk
      exact turn_all (asg_name (J.sto _ (by kernel_rfl))) (cap_put (by kernel_rfl)) (eline hk (by omega) (hP's k) (ev_name (by walk_at "m mem")) (by walk_at "m mem") (ev_name (by walk_at "m mem")) (ev_name (by walk_at "m mem")) (by intro _ _ _; rfl))
    have hlast : ((List.range n).flatMap fun k => [D.str (lineS P' (WL nums) k)]) = linesD P' (WL nums) := by rw [flat_one]; unfold linesD; rw [hP'l]
    rw [hlast]
    have hu : C.A.units + 64 < cLine := by have := hroom.units; omega
    have okS : (D.list ((List.range n).map fun i => .list ((List.range n).map fun j => .int (due nums i j)))).okd 2 = true := okd_list fun d hd => by
      obtain ⟨i, _, rfl⟩ := List.mem_map.mp hd
      exact okd_list fun d hd => by
        obtain ⟨i, _, rfl⟩ := List.mem_map.mp hd
        exact okd_int _ _
    have okL : (D.list (linesD P' (WL nums))).okd 1 = true := okd_list fun d hd => by
      unfold linesD at hd
      obtain ⟨i, hi, rfl⟩ := List.mem_map.mp hd
      have hi := List.mem_range.mp hi
      have := cb i
      refine okd_str (lineS_ok ?_ ?_) _
      · rw [hWL i (by omega)]; show charN _ < _; omega
      · rw [hWL i (by omega)]; show 107 + i < _; omega
    have hW : WordsOk (WL nums) (PL nums).length := fun k hk => by
      have := cb k
      rw [hWL k (by omega)]
      show 60 ≤ charN _ ∧ 60 ≤ 107 + k
      omega
    refine exs_cons (ex_if (c := false) ((tr_or2 (a := false) (b := false) ((tr_cmp (ev_name (by walk_at "m mem")) (ev_name (by walk_at "m mem")) (cmp_ne_data (okd_ok okS (by decide)) (okd_ok okS (by decide)) hu)).eq (by rw [okd_eq okS]; rfl)) fun _ =>
      (tr_cmp (ev_callK KX (ev_glob G g3 I.scp (by kernel_rfl)) (by kernel_rfl) (evs_cons (ev_name (by walk_at "m mem")) (evs_cons (ev_name (by walk_at "m mem")) (evs_cons (ev_name (by walk_at "m mem")) (evs_cons ev_int (evs_cons (ev_name (by walk_at "m mem")) evs_nil))))) (run_fn KX lim G B bi R0 hfits (by omega) hprl hW (endL_end nums)) hroom) (ev_name (by walk_at "m mem")) (cmp_ne_data (okd_ok okL (by decide)) (okd_ok okL (by decide)) hu)).eq (by rw [okd_eq okL]; rfl)).eq rfl) (fun q => nomatch q) fun _ => exs_nil) ?_
    refine exs_ret (ex_ret ((ev_cmp (ev_callK KX (ev_glob G g3 I.scp (by kernel_rfl)) (by kernel_rfl) (evs_cons (ev_name (by walk_at "m mem")) (evs_cons (ev_name (by walk_at "m mem")) (evs_cons (ev_name (by walk_at "m mem")) (evs_cons (ev_callB (ev_bi G b4 B bi.sum I.scp (by kernel_rfl)) (evs_cons (ev_name (by walk_at "m mem")) evs_nil) bi_sum) (evs_cons (ev_name (by walk_at "m mem")) evs_nil))))) (run_fn KX lim G B bi R1 hfits (by omega) hprl hW (endL_end nums)) hroom) (ev_name (by walk_at "m mem")) (cmp_eq_data (okd_ok okL (by decide)) (okd_ok okL (by decide)) hu)).eq (by rw [okd_eq okL])))
end
end Mine

set_option Elab.async false
set_option linter.unusedVariables false
set_option linter.unusedSimpArgs false
namespace Mine

def qf (P : List Nat) : Nat → Int := fun k => (P.getD k 0 : Int)
theorem ltB_ord (nums : List Int) (n : Nat) : Ord n (ltB nums) := by
  refine ⟨fun i => ?_, fun i j k h1 h2 => ?_, fun i j h => ?_⟩
  · unfold ltB; exact decide_eq_false (by omega)
  · unfold ltB at *; have h1 := of_decide_eq_true h1; have h2 := of_decide_eq_true h2; exact decide_eq_true (by omega)
  · unfold ltB
    rcases Int.lt_trichotomy (rankI (nums.getD i 0)) (rankI (nums.getD j 0)) with h1 | h1 | h1
    · exact .inl (decide_eq_true (by omega))
    · rcases Nat.lt_or_gt_of_ne h with h2 | h2
      · exact .inl (decide_eq_true (by omega))
      · exact .inr (decide_eq_true (by omega))
    · exact .inr (decide_eq_true (by omega))
theorem due_lt (nums : List Int) (i j : Nat) : due nums i j = -1 ↔ ltB nums i j = true := by
  unfold due
  by_cases h : i = j
  · subst h; rw [if_pos rfl, (ltB_ord nums 0).irr]; simp
  · rw [if_neg h]
    cases ltB nums i j <;> simp
theorem rank_sum {n : Nat} {lt : Nat → Nat → Bool} (O : Ord n lt) (hn : n ≤ 5) : sumTo n (rank n lt) ≤ 10 := by
  unfold rank
  have f : ∀ j k, (if lt j k then (1 : Int) else 0) + (if lt k j then (1 : Int) else 0) ≤ 1 := fun j k => by
    cases e : lt j k with
    | true => rw [O.asym e]; decide
    | false => cases lt k j <;> decide
  have f0 := f 0 0; have f1 := f 1 1; have f2 := f 2 2; have f3 := f 3 3; have f4 := f 4 4
  have g1 := f 0 1; have g2 := f 0 2; have g3 := f 0 3; have g4 := f 0 4; have g5 := f 1 2; have g6 := f 1 3; have g7 := f 1 4; have g8 := f 2 3; have g9 := f 2 4; have g10 := f 3 4
  clear f
  rcases (by omega : n = 0 ∨ n = 1 ∨ n = 2 ∨ n = 3 ∨ n = 4 ∨ n = 5) with rfl | rfl | rfl | rfl | rfl | rfl <;> simp only [sumTo] <;> omega
theorem mu_start {n : Nat} {lt : Nat → Nat → Bool} (O : Ord n lt) (hn : n ≤ 5) {q : Nat → Int} (h : ∀ k, k < n → 4 ≤ q k) : mu n lt q ≤ 40 := by
  have h1 : mu n lt q ≤ sumTo n (fun k => 4 * rank n lt k) := sumTo_le fun k hk => by
    have := h k hk
    have h2 := Int.mul_le_mul_of_nonneg_left (by omega : 8 - q k ≤ 4) (rank_nonneg (n := n) (lt := lt) k)
    omega
  rw [sumTo_mul] at h1
  have := rank_sum O hn
  have e : sumTo n (fun k => rank n lt k) = sumTo n (rank n lt) := rfl
  omega

section
variable {nums : List Int} {slack : Int}

theorem free_mem {P : List Nat} {x : Nat × Nat} : x ∈ freeL slack (prsL nums) P ↔ (x.1 < nums.length ∧ x.2 < nums.length ∧ ltB nums x.1 x.2 = true) ∧ 0 ≤ qf P x.1 - qf P x.2 ∧ qf P x.1 - qf P x.2 ≤ slack := by
  unfold freeL
  rw [List.mem_filter, prsL_mem, due_lt]
  unfold isFree qf
  simp only [Bool.and_eq_true, decide_eq_true_eq]
theorem fire_qf {P : List Nat} {x : Nat × Nat} (hP : P.length = nums.length) (h1 : x.1 < nums.length) (h2 : x.2 < nums.length) (hne : x.1 ≠ x.2) (hp : 1 ≤ P.getD x.1 0) : qf (fire P x) = upd (qf P) x.1 x.2 := by
  funext k
  unfold qf upd
  dsimp only
  rcases Nat.lt_or_ge k P.length with hk | hk
  · have : (fire P x).getD k 0 = if k = x.1 then P.getD k 0 - 1 else if k = x.2 then P.getD k 0 + 1 else P.getD k 0 := by
      unfold fire
      rw [List.getD_eq_getElem?_getD, List.getElem?_map, List.getElem?_range hk]; rfl
    rw [this]
    by_cases e1 : k = x.1
    · rw [if_pos e1, if_pos e1]; rw [e1]; omega
    · rw [if_neg e1, if_neg e1]
      by_cases e2 : k = x.2
      · rw [if_pos e2, if_pos e2]; omega
      · rw [if_neg e2, if_neg e2]
  · have z1 : (fire P x).getD k 0 = 0 := by rw [List.getD_eq_getElem?_getD, List.getElem?_eq_none (by rw [fire_length]; exact hk)]; rfl
    have z2 : P.getD k 0 = 0 := by rw [List.getD_eq_getElem?_getD, List.getElem?_eq_none hk]; rfl
    rw [z1, z2, if_neg (by omega), if_neg (by omega)]
theorem free_still {P : List Nat} (h : freeL slack (prsL nums) P = []) : Still nums.length slack (ltB nums) (qf P) := fun q' k => by
  obtain ⟨l, g, a, b, c, d, e, _⟩ := k
  have : (l, g) ∈ freeL slack (prsL nums) P := free_mem.mpr ⟨⟨a, b, c⟩, d, e⟩
  rw [h] at this; cases this
theorem free_step {P : List Nat} {x : Nat × Nat} (hP : P.length = nums.length) (G : Gd nums.length (qf P)) (h : x ∈ freeL slack (prsL nums) P) :
    St nums.length slack (ltB nums) (qf P) (qf (fire P x)) ∧ 1 ≤ P.getD x.1 0 ∧ 1 ≤ P.getD x.2 0 := by
  obtain ⟨⟨a, b, c⟩, d, e⟩ := free_mem.mp h
  have b1 := gd_between G a
  have b2 := gd_between G b
  unfold qf at b1 b2
  refine ⟨⟨x.1, x.2, a, b, c, d, e, fire_qf hP a b ((ltB_ord nums 0).ne c) (by omega)⟩, by omega, by omega⟩
theorem gd_small {P : List Nat} (hP : P.length = nums.length) (G : Gd nums.length (qf P)) : Small P := fun k => by
  rcases Nat.lt_or_ge k nums.length with hk | hk
  · have := gd_between G hk
    unfold qf at this; omega
  · rw [List.getD_eq_getElem?_getD, List.getElem?_eq_none (by omega)]; exact Nat.zero_le _

theorem told_ex (hn : nums.length ≤ 5) : ∀ (m : Nat) (P : List Nat), P.length = nums.length → Gd nums.length (qf P) → mu nums.length (ltB nums) (qf P) ≤ m →
    ∃ P', Told slack (prsL nums) P P' ∧ Star (St nums.length slack (ltB nums)) (qf P) (qf P') ∧ Still nums.length slack (ltB nums) (qf P') ∧ P'.length = nums.length := by
  have O := ltB_ord nums nums.length
  intro m
  induction m with
  | zero =>
    intro P hP G hm
    cases h : freeL slack (prsL nums) P with
    | nil => exact ⟨P, .done h, .refl _, free_still h, hP⟩
    | cons x r =>
      have hx : x ∈ freeL slack (prsL nums) P := by rw [h]; exact .head _
      obtain ⟨st, _, _⟩ := free_step hP G hx
      have := mu_step O st
      have := mu_nonneg (lt := ltB nums) (gd_step O hn G st)
      omega
  | succ m ih =>
    intro P hP G hm
    cases h : (freeL slack (prsL nums) P).getLast? with
    | none =>
      have h := List.getLast?_eq_none_iff.mp h
      exact ⟨P, .done h, .refl _, free_still h, hP⟩
    | some x =>
      obtain ⟨st, p1, p2⟩ := free_step hP G (List.mem_of_getLast? h)
      have := mu_step O st
      obtain ⟨P', t1, t2, t3, t4⟩ := ih (fire P x) (by rw [fire_length, hP]) (gd_step O hn G st) (by omega)
      exact ⟨P', .turn h p1 t1, .head st t2, t3, t4⟩
theorem run_ex (picks : Int) (hn : nums.length ≤ 5) : ∀ (m k : Nat) (P : List Nat), k + m < 60 → P.length = nums.length → Gd nums.length (qf P) → mu nums.length (ltB nums) (qf P) ≤ m →
    ∃ P', Run slack (prsL nums) picks k P P' ∧ Star (St nums.length slack (ltB nums)) (qf P) (qf P') ∧ Still nums.length slack (ltB nums) (qf P') ∧ P'.length = nums.length := by
  have O := ltB_ord nums nums.length
  intro m
  induction m with
  | zero =>
    intro k P hk hP G hm
    cases h : freeL slack (prsL nums) P with
    | nil => exact ⟨P, .done (by omega) (gd_small hP G) h, .refl _, free_still h, hP⟩
    | cons x r =>
      have hx : x ∈ freeL slack (prsL nums) P := by rw [h]; exact .head _
      obtain ⟨st, _, _⟩ := free_step hP G hx
      have := mu_step O st
      have := mu_nonneg (lt := ltB nums) (gd_step O hn G st)
      omega
  | succ m ih =>
    intro k P hk hP G hm
    by_cases h : freeL slack (prsL nums) P = []
    · exact ⟨P, .done (by omega) (gd_small hP G) h, .refl _, free_still h, hP⟩
    · have hlen : (freeL slack (prsL nums) P).length ≠ 0 := fun q => h (List.eq_nil_of_length_eq_zero q)
      have hpos : (0 : Int) < (freeL slack (prsL nums) P).length := by omega
      have hm0 : 0 ≤ (picks.fdiv (7 ^ k)).fmod ((freeL slack (prsL nums) P).length : Int) := Int.fmod_nonneg_of_pos _ hpos
      have hm1 : (picks.fdiv (7 ^ k)).fmod ((freeL slack (prsL nums) P).length : Int) < (freeL slack (prsL nums) P).length := Int.fmod_lt_of_pos _ hpos
      have hlt : ((picks.fdiv (7 ^ k)).fmod ((freeL slack (prsL nums) P).length : Int)).toNat < (freeL slack (prsL nums) P).length := by omega
      have hx := List.getElem?_eq_getElem hlt
      obtain ⟨st, p1, p2⟩ := free_step hP G (List.mem_of_getElem? hx)
      have := mu_step O st
      obtain ⟨P', t1, t2, t3, t4⟩ := ih (k + 1) _ (by omega) (by rw [fire_length, hP]) (gd_step O hn G st) (by omega)
      exact ⟨P', .turn (by omega) (gd_small hP G) hx p1 p2 t1, .head st t2, t3, t4⟩
theorem qf_inj {P P' : List Nat} (h : qf P = qf P') (hl : P.length = P'.length) : P = P' := by
  apply List.ext_getElem hl
  intro i h1 h2
  have := congrFun h i
  unfold qf at this
  rw [List.getD_eq_getElem?_getD, List.getD_eq_getElem?_getD, List.getElem?_eq_getElem h1, List.getElem?_eq_getElem h2] at this
  have : ((P[i] : Nat) : Int) = ((P'[i] : Nat) : Int) := this
  omega
theorem slackI_is (nums : List Int) : slackI nums = 1 ∨ slackI nums = 2 := by
  have h1 := Int.fmod_nonneg_of_pos nums.sum (b := 2) (by decide)
  have h2 := Int.fmod_lt_of_pos nums.sum (b := 2) (by decide)
  unfold slackI; omega
theorem law1_plain (script : List Int) : ∃ P', Told (slackI (numsS script)) (prsL (numsS script)) (PL (numsS script)) P' ∧ Run (slackI (numsS script)) (prsL (numsS script)) 0 0 (PL (numsS script)) P' ∧ Run (slackI (numsS script)) (prsL (numsS script)) script.sum 0 (PL (numsS script)) P' := by
  have hn : (numsS script).length ≤ 5 := by rw [numsS_length]; exact (sizeN_le _).2
  generalize numsS script = nums at *
  have O := ltB_ord nums nums.length
  have hP : (PL nums).length = nums.length := by unfold PL; rw [List.length_map, List.length_range]
  have hb : ∀ k, k < nums.length → 4 ≤ qf (PL nums) k ∧ qf (PL nums) k ≤ 6 := fun k hk => by
    unfold qf PL
    rw [getD_range hk]
    have h1 := Int.fmod_nonneg_of_pos (nums.getD k 0) (b := 3) (by decide)
    have h2 := Int.fmod_lt_of_pos (nums.getD k 0) (b := 3) (by decide)
    unfold placeN; omega
  have G : Gd nums.length (qf (PL nums)) := ⟨inv_start hn fun k hk => (hb k hk).2, inv_start hn fun k hk => by have := (hb k hk).1; omega⟩
  have hm := mu_start O hn fun k hk => (hb k hk).1
  obtain ⟨P1, a1, a2, a3, a4⟩ := told_ex (slack := slackI nums) hn 40 (PL nums) hP G hm
  obtain ⟨P2, b1, b2, b3, b4⟩ := run_ex (slack := slackI nums) 0 hn 40 0 (PL nums) (by decide) hP G hm
  obtain ⟨P3, c1, c2, c3, c4⟩ := run_ex (slack := slackI nums) script.sum hn 40 0 (PL nums) (by decide) hP G hm
  have e12 := one_end (slackI_is nums) O hn 40 _ G hm _ _ a2 a3 b2 b3
  have e13 := one_end (slackI_is nums) O hn 40 _ G hm _ _ a2 a3 c2 c3
  have f12 := qf_inj e12 (by omega)
  have f13 := qf_inj e13 (by omega)
  subst f12; subst f13
  exact ⟨P1, a1, b1, c1⟩
end
end Mine

set_option Elab.async false
set_option linter.unusedVariables false
set_option linter.unusedSimpArgs false
set_option maxRecDepth 100000
namespace Mine
open PySem.Challenge

section
variable {prog : Program} {w : World} {h₀ : Heap} {mg mb : Str → Option Value}

theorem fn_top {K : Frag} {f : Addr} {n : Nat} {d0 d : D} (x : Str) (KX : K.In h₀) (lim : h₀.NoLimit) (hok : fnAtOk K f [x] = true) (hx : (scAt K f).names.lookup x = some .local) (hbind : ∀ fd, fdAt K f = some fd → ∀ v : Value, bindArgs fd ⟨[v], []⟩ = pure [(x, v)])
    (h : ∀ C, InFn C (scAt K f) n → ExsD prog w h₀ C [(x, d0)] (bdAt K f) (.ret d)) {A : Around} {s : Shared} {v : Value} (R : Room A (n + 1)) (gens : s.gens = #[]) (top : ∀ b o, h₀.get? b = some o → s.heap.get? b = some o) (i : Is (fun _ => False) s.heap v d0) :
    wpAny (model prog w) A (call (.ref f) [v]) (fun u s' => Keeps s s' ∧ Is (fun _ => False) s'.heap u d) no s := by
  unfold fnAtOk at hok
  split at hok
  · rename_i fd e
    obtain ⟨ob, ho, hd⟩ := fdAt_in KX e
    simp only [Bool.and_eq_true, beq_iff_eq, List.isEmpty_iff] at hok
    obtain ⟨⟨⟨⟨⟨a1, a2⟩, a3⟩, a4⟩, a5⟩, a6⟩ := hok
    have hsc : scAt K f = fd.scope := by unfold scAt; rw [e]
    have hb : fd.body = .stmts (bdAt K f) := by
      unfold bdAt; rw [e]
      dsimp only
      split at a2
      · rename_i q; rw [q]
      · cases a2
    rw [hsc] at h hx
    refine wpAny_call (fn_code (xs := [x]) (ds := [d0]) (X := fun _ => False) ho hd (codeRec_of KX a1) lim hb a3 a4 a5 rfl (fun vs hl => ?_) a6 R gens (.inr ⟨x, v, rfl, hx⟩) top (fun a q => q.elim) (.cons i .nil) fun C s₁ I S k₁ wge hX => ?_)
    · match vs, hl with
      | [v], _ => exact hbind fd e v
    refine wpAny_mono (h C I s₁ S) (fun fl s' z => ?_) fun _ _ z => z
    obtain ⟨k₂, v, rfl, iv⟩ := z
    refine ⟨?_, iv.less fun a q => (hX a).mpr (.inl q)⟩
    obtain ⟨h2, t2, e2, l2, k2⟩ := keepsW_trans (keepsW_of (W := C.W) k₁) k₂
    exact ⟨h2, t2, e2, l2, fun b o e => k2 b o (fun q => by rw [wge b q] at e; cases e) e⟩
  · cases hok

theorem law_call (KX : (KK w).In h₀) (lim : h₀.NoLimit) (G : h₀.Ns mainGlobals mg) (B : h₀.Ns builtinsNs mb) (bi : Bis mb) (script : List Int) (hsc : script.length ≤ 63) {A : Around} {s : Shared} {v : Value} (R : Room A 4) (gens : s.gens = #[]) (top : ∀ b o, h₀.get? b = some o → s.heap.get? b = some o)
    (i : Is (fun _ => False) s.heap v (.list (script.map D.int))) : wpAny (model prog w) A (call (.ref 150) [v]) (fun u s' => Keeps s s' ∧ u = .bool true) no s := by
  obtain ⟨P', T, R0, R1⟩ := law1_plain script
  refine wpAny_mono (fn_top (n := 3) "script" KX lim (by kernel_rfl) (by kernel_rfl) ?_ (law_body KX lim G B bi script hsc P' T R0 R1) R gens top i) (fun u s' z => ⟨z.1, z.2.bool_inv⟩) fun _ _ z => z
  intro fd e v
  cases e; rfl
theorem well_ints {P : Params} {h : Heap} : ∀ {script : List Int} {vs : List Value}, WellAll P h vs (ofPys (script.map PyData.int)) → IsAll (fun _ => False) h vs (script.map D.int)
  | [], [], _ => .nil
  | i :: script, v :: vs, q => by
    cases q with
    | cons a b =>
      cases a
      exact .cons (.int _ _) (well_ints b)
theorem well_script {P : Params} {h : Heap} {script : List Int} {v : Value} (q : Well P h v (ofPy (.list (script.map PyData.int)))) : Is (fun _ => False) h v (.list (script.map D.int)) := by
  cases q with
  | list e r => exact .list (n := 0) (fun q => q) (by rw [e]; rfl) (well_ints r)
theorem bis_of (h : ∀ x : Str, x ≠ "__name__" → mb x = bootBuiltins x) : Bis mb :=
  ⟨(h _ (by decide +kernel)).trans (by kernel_rfl), (h _ (by decide +kernel)).trans (by kernel_rfl), (h _ (by decide +kernel)).trans (by kernel_rfl), (h _ (by decide +kernel)).trans (by kernel_rfl), (h _ (by decide +kernel)).trans (by kernel_rfl), (h _ (by decide +kernel)).trans (by kernel_rfl), (h _ (by decide +kernel)).trans (by kernel_rfl)⟩
theorem post_ok {l : OpenLaw} {args ds : List WData} : l.row.claim.post args (.bool true) ds = true := by
  show (WShape.has [] (.bool true) .bool && WTm.holds [] (.eq .res (.lit (.bool true))) { args := args, res := some (.bool true), after := ds }) = true
  unfold WTm.holds
  kernel_rfl
theorem room_caller : Room callerA 4 := ⟨rfl, by decide +kernel, by decide +kernel⟩
theorem law_good {c : ClaimW} {cl : Str → Option Addr} {mean : ExcName → Option Value} {args : List WData} {s₁ : Shared} {v : Value} {fa : Addr} {script : List Int} (KX : (KK w).In s₁.heap) (lim : s₁.heap.NoLimit) (G : s₁.heap.Ns mainGlobals mg) (B : s₁.heap.Ns builtinsNs mb) (hb : ∀ x : Str, x ≠ "__name__" → mb x = bootBuiltins x)
    (hmg : mg "law" = some (.ref fa)) (hg : s₁.gens = #[]) (hw : Well w.params s₁.heap v (ofPy (.list (script.map PyData.int)))) (hl : script.length ≤ 63) (p1 : ∀ cls, c.raises args cls = false) (p2 : c.post args (.bool true) args = true) :
    wpAny (model prog w) callerA (call (.ref fa) [v]) (fun v s' => GoodWG c cl mean args s₁ (.ok (.ret v)) s') (fun e s' => GoodWG c cl mean args s₁ (.error e) s') s₁ := by
  have e : mg "law" = some (.ref 150) := mg_of KX G (by kernel_rfl)
  rw [e] at hmg
  cases hmg
  refine wpAny_mono (law_call KX lim G B (bis_of hb) script hl room_caller hg (fun _ _ e => e) (well_script hw)) (fun u s' z => ?_) fun _ _ z => z.elim
  obtain ⟨k, rfl⟩ := z
  obtain ⟨h', tk, rfl, _, kk⟩ := k
  exact ⟨.inl ⟨.bool true, .bool true, [], rfl, p1, .bool true, p2, fun _ => ⟨List.nodup_nil, fun a q => nomatch q⟩⟩, .of_keep kk, rfl, .of_eq hg⟩
end
end Mine

set_option Elab.async false
set_option maxRecDepth 100000
set_option maxHeartbeats 8000000
theorem PySem.Challenge.cw_rl0057_01_holds : PySem.Challenge.rw_rl0057_01.Holds :=
  Mine.hd (by
    intro w s₀ s₁ mg mb G Y fa o pm cd doc dV kV ho hd hcd hD hmg hg args vals as hpre hlay hrd hwl hlo
    have KX := kIn_of Y
    refine Ground.open G ?_
    intro T B D TE TW
    clear B D TE TW Y ho hd hcd hD
    wrow_args hpre hlay hrd hwl hlo
    refine Mine.law_good KX T.nolimit T.g T.b T.builtins hmg hg (by assumption) ?_ ?_ ?_
    · omega
    · intro cls; rfl
    · exact Mine.post_ok)

