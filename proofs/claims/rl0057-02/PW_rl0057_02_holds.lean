import PyProof.Rows.All
import Wide.All
import OpenK.AllK
import Wide.FinOn
import PySem.Challenge.RW_rl0057_02
set_option Elab.async false
open PySem PySem.W PyProof.Rows
set_option Elab.async false
set_option linter.unusedVariables false
namespace Mine

/-- plain data -/
inductive D where
  | none
  | bool (b : Bool)
  | int (i : Int)
  | str (x : Str)
  | list (l : List D)
  | tup (l : List D)
  | range (lo hi : Int)
  | obj (c : Addr) (ns : List Str) (vs : List D)
  | raw (v : Value)

def listObj (vs : List Value) (n : Nat) : Obj := { cls := .type "list", dict := none, data := .seq vs.toArray n, slots := #[] }
def tupObj (vs : List Value) (n : Nat) : Obj := { cls := .type "tuple", dict := none, data := .seq vs.toArray n, slots := #[] }

def dictO (es : List DictEntry) (n : Nat) : Obj := { cls := .type "dict", dict := none, data := .dict es.toArray n, slots := #[] }
def instO (c dx : Addr) : Obj := { cls := .ref c, dict := some dx, data := .plain, slots := #[] }
def rangeO (lo hi : Int) (t u v : Tok) : Obj := { cls := .type "range", dict := none, data := .fields #[.int lo t, .int hi u, .int 1 v], slots := #[] }
def keyName : Value → Option Str
  | .str x _ => some x
  | _ => none

mutual
/-- the value v stands for the data d in the heap h; none of its objects lies in X -/
inductive Is (X : Addr → Prop) (h : Heap) : Value → D → Prop
  | none : Is X h .none .none
  | bool (b : Bool) : Is X h (.bool b) (.bool b)
  | int (i : Int) (t : Tok) : Is X h (.int i t) (.int i)
  | str (x : Str) (t : Tok) : Is X h (.str x t) (.str x)
  | list {a : Addr} {vs : List Value} {n : Nat} {ds : List D} : ¬ X a → h.get? a = some (listObj vs n) → IsAll X h vs ds → Is X h (.ref a) (.list ds)
  | tup {a : Addr} {vs : List Value} {n : Nat} {ds : List D} : ¬ X a → h.get? a = some (tupObj vs n) → IsAll X h vs ds → Is X h (.ref a) (.tup ds)
  | range {a : Addr} {lo hi : Int} {t u v : Tok} : ¬ X a → h.get? a = some (rangeO lo hi t u v) → Is X h (.ref a) (.range lo hi)
  | obj {a dx c : Addr} {es : List DictEntry} {n : Nat} {ns : List Str} {vs : List D} : ¬ X a → ¬ X dx → h.get? a = some (instO c dx) → h.get? dx = some (dictO es n) →
      es.map (fun e => keyName e.key) = ns.map some → IsAll X h (es.map (fun e => e.val)) vs → Is X h (.ref a) (.obj c ns vs)
  | raw (v : Value) : Is X h v (.raw v)
inductive IsAll (X : Addr → Prop) (h : Heap) : List Value → List D → Prop
  | nil : IsAll X h [] []
  | cons {v : Value} {vs : List Value} {d : D} {ds : List D} : Is X h v d → IsAll X h vs ds → IsAll X h (v :: vs) (d :: ds)
end

mutual
theorem Is.mono {X Y : Addr → Prop} {h h' : Heap} (hk : ∀ b o, ¬ X b → h.get? b = some o → ¬ Y b ∧ h'.get? b = some o) : ∀ {v : Value} {d : D}, Is X h v d → Is Y h' v d
  | _, _, .none => .none
  | _, _, .bool b => .bool b
  | _, _, .int i t => .int i t
  | _, _, .str x t => .str x t
  | _, _, .list ha ho hs => .list (hk _ _ ha ho).1 (hk _ _ ha ho).2 (IsAll.mono hk hs)
  | _, _, .tup ha ho hs => .tup (hk _ _ ha ho).1 (hk _ _ ha ho).2 (IsAll.mono hk hs)
  | _, _, .range ha ho => .range (hk _ _ ha ho).1 (hk _ _ ha ho).2
  | _, _, .obj ha hd ho he hn hs => .obj (hk _ _ ha ho).1 (hk _ _ hd he).1 (hk _ _ ha ho).2 (hk _ _ hd he).2 hn (IsAll.mono hk hs)
  | _, _, .raw v => .raw v
theorem IsAll.mono {X Y : Addr → Prop} {h h' : Heap} (hk : ∀ b o, ¬ X b → h.get? b = some o → ¬ Y b ∧ h'.get? b = some o) : ∀ {vs : List Value} {ds : List D}, IsAll X h vs ds → IsAll Y h' vs ds
  | _, _, .nil => .nil
  | _, _, .cons a r => .cons (Is.mono hk a) (IsAll.mono hk r)
end


/-- everything is kept; tokens are used up, never handed back -/
def Keeps (s s' : Shared) : Prop := ∃ h' tk, s' = { s with heap := h', toks := tk } ∧ @LE.le Nat _ s.toks tk ∧ ∀ b o, s.heap.get? b = some o → h'.get? b = some o
def Keeps0 (s s' : Shared) : Prop := ∃ h' tk, s' = { s with heap := h', toks := tk } ∧ ∀ b o, s.heap.get? b = some o → h'.get? b = some o
theorem keeps_refl (s : Shared) : Keeps s s := ⟨s.heap, s.toks, rfl, Nat.le_refl _, fun _ _ e => e⟩
theorem keeps_toks (s : Shared) (n : Nat) : Keeps s { s with toks := s.toks + n } := ⟨s.heap, _, rfl, Nat.le_add_right _ _, fun _ _ e => e⟩
theorem keeps0_toks (s : Shared) (t : Nat) : Keeps0 s { s with toks := t } := ⟨s.heap, t, rfl, fun _ _ e => e⟩
theorem keeps_trans {s s' s'' : Shared} (a : Keeps s s') (b : Keeps s' s'') : Keeps s s'' := by
  obtain ⟨h', t', rfl, l, k⟩ := a
  obtain ⟨h'', t'', rfl, l', k'⟩ := b
  exact ⟨h'', t'', rfl, Nat.le_trans l l', fun x o e => k' x o (k x o e)⟩
theorem keeps_get {s s' : Shared} (k : Keeps s s') {b : Addr} {o : Obj} (e : s.heap.get? b = some o) : s'.heap.get? b = some o := by
  obtain ⟨h', t', rfl, l, k⟩ := k
  exact k b o e
theorem keeps_le {s s' : Shared} (k : Keeps s s') : @LE.le Nat _ s.toks s'.toks := by
  obtain ⟨h', t', rfl, l, k⟩ := k
  exact l
theorem keeps_push (s : Shared) (o : Obj) : Keeps s { s with heap := s.heap.push o } := ⟨_, s.toks, rfl, Nat.le_refl _, fun _ _ e => Heap.get?_push_of_some _ e⟩
theorem keeps_heap {s : Shared} {h' : Heap} (k : ∀ b o, s.heap.get? b = some o → h'.get? b = some o) : Keeps s { s with heap := h' } := ⟨_, _, rfl, Nat.le_refl _, k⟩
theorem keeps0_heap {s : Shared} {h' : Heap} {t : Nat} (k : ∀ b o, s.heap.get? b = some o → h'.get? b = some o) : Keeps0 s { s with heap := h', toks := t } := ⟨_, _, rfl, k⟩
theorem keeps_of0 {s s' : Shared} (k : Keeps0 s s') (l : @LE.le Nat _ s.toks s'.toks) : Keeps s s' := by
  obtain ⟨h', t', rfl, k⟩ := k
  exact ⟨h', t', rfl, l, k⟩
/-- a tree never hands tokens back -/
theorem up {α : Type} {M : Model} {A : Around} {t : Sem α} {P : α → Shared → Prop} {s : Shared} (h : wpAny M A t (fun v s' => Keeps0 s s' ∧ P v s') (fun _ _ => False) s) : wpAny M A t (fun v s' => Keeps s s' ∧ P v s') (fun _ _ => False) s :=
  wpAny_mono (wpAny_toks_of (n := s.toks) (Nat.le_refl _) h) (fun _ _ z => ⟨keeps_of0 z.2.1 z.1, z.2.2⟩) fun _ _ z => z.2

/-- everything outside W is kept -/
def KeepsW (W : Addr → Prop) (s s' : Shared) : Prop := ∃ h' tk, s' = { s with heap := h', toks := tk } ∧ @LE.le Nat _ s.toks tk ∧ ∀ b o, ¬ W b → s.heap.get? b = some o → h'.get? b = some o
theorem keepsW_refl (W : Addr → Prop) (s : Shared) : KeepsW W s s := ⟨s.heap, s.toks, rfl, Nat.le_refl _, fun _ _ _ e => e⟩
theorem keepsW_of {W : Addr → Prop} {s s' : Shared} (a : Keeps s s') : KeepsW W s s' := by
  obtain ⟨h', t', rfl, l, k⟩ := a
  exact ⟨h', t', rfl, l, fun b o _ e => k b o e⟩
theorem keepsW_trans {W : Addr → Prop} {s s' s'' : Shared} (a : KeepsW W s s') (b : KeepsW W s' s'') : KeepsW W s s'' := by
  obtain ⟨h', t', rfl, l, k⟩ := a
  obtain ⟨h'', t'', rfl, l', k'⟩ := b
  exact ⟨h'', t'', rfl, Nat.le_trans l l', fun x o n e => k' x o n (k x o n e)⟩
theorem keepsW_mono {W V : Addr → Prop} {s s' : Shared} (hs : ∀ a, W a → V a) (a : KeepsW W s s') : KeepsW V s s' := by
  obtain ⟨h', t', rfl, l, k⟩ := a
  exact ⟨h', t', rfl, l, fun b o n e => k b o (fun q => n (hs b q)) e⟩
theorem keepsW_get {W : Addr → Prop} {s s' : Shared} (k : KeepsW W s s') {b : Addr} {o : Obj} (n : ¬ W b) (e : s.heap.get? b = some o) : s'.heap.get? b = some o := by
  obtain ⟨h', t', rfl, l, k⟩ := k
  exact k b o n e
theorem keepsW_le {W : Addr → Prop} {s s' : Shared} (k : KeepsW W s s') : @LE.le Nat _ s.toks s'.toks := by
  obtain ⟨h', t', rfl, l, k⟩ := k
  exact l
/-- what is written is new: nothing old is lost -/
theorem keeps_ofW {W : Addr → Prop} {s s' : Shared} (a : KeepsW W s s') (hn : ∀ b o, W b → s.heap.get? b = some o → False) : Keeps s s' := by
  obtain ⟨h', t', rfl, l, k⟩ := a
  exact ⟨h', t', rfl, l, fun b o e => k b o (fun q => hn b o q e) e⟩

theorem Is.keeps {X : Addr → Prop} {s s' : Shared} {v : Value} {d : D} (i : Is X s.heap v d) (k : Keeps s s') : Is X s'.heap v d :=
  i.mono fun _ _ n e => ⟨n, keeps_get k e⟩
theorem IsAll.keeps {X : Addr → Prop} {s s' : Shared} {v : List Value} {d : List D} (i : IsAll X s.heap v d) (k : Keeps s s') : IsAll X s'.heap v d :=
  i.mono fun _ _ n e => ⟨n, keeps_get k e⟩
theorem Is.keepsW {X W : Addr → Prop} {s s' : Shared} {v : Value} {d : D} (i : Is X s.heap v d) (k : KeepsW W s s') (hs : ∀ a, W a → X a) : Is X s'.heap v d :=
  i.mono fun _ _ n e => ⟨n, keepsW_get k (fun q => n (hs _ q)) e⟩
theorem IsAll.keepsW {X W : Addr → Prop} {s s' : Shared} {v : List Value} {d : List D} (i : IsAll X s.heap v d) (k : KeepsW W s s') (hs : ∀ a, W a → X a) : IsAll X s'.heap v d :=
  i.mono fun _ _ n e => ⟨n, keepsW_get k (fun q => n (hs _ q)) e⟩
theorem Is.less {X Y : Addr → Prop} {h : Heap} {v : Value} {d : D} (i : Is X h v d) (hs : ∀ a, Y a → X a) : Is Y h v d :=
  i.mono fun _ _ n e => ⟨fun q => n (hs _ q), e⟩
theorem IsAll.less {X Y : Addr → Prop} {h : Heap} {v : List Value} {d : List D} (i : IsAll X h v d) (hs : ∀ a, Y a → X a) : IsAll Y h v d :=
  i.mono fun _ _ n e => ⟨fun q => n (hs _ q), e⟩
/-- more addresses may be reserved, if the heap has nothing there -/
theorem Is.more {X Y : Addr → Prop} {h : Heap} {v : Value} {d : D} (i : Is X h v d) (hs : ∀ a, Y a → X a ∨ h.get? a = Option.none) : Is Y h v d :=
  i.mono fun b o n e => ⟨fun q => (hs _ q).elim n fun z => (by rw [z] at e; cases e), e⟩
theorem IsAll.more {X Y : Addr → Prop} {h : Heap} {v : List Value} {d : List D} (i : IsAll X h v d) (hs : ∀ a, Y a → X a ∨ h.get? a = Option.none) : IsAll Y h v d :=
  i.mono fun b o n e => ⟨fun q => (hs _ q).elim n fun z => (by rw [z] at e; cases e), e⟩
theorem get_none_of_le {h : Heap} {a : Addr} (l : h.objs.size ≤ a) : h.get? a = none := by
  cases e : h.get? a with
  | none => rfl
  | some o => exact absurd (Heap.lt_size e) (Nat.not_lt.mpr l)
theorem IsAll.length {X : Addr → Prop} {h : Heap} : ∀ {vs : List Value} {ds : List D}, IsAll X h vs ds → vs.length = ds.length
  | _, _, .nil => rfl
  | _, _, .cons _ r => by rw [List.length_cons, List.length_cons, IsAll.length r]
theorem IsAll.append {X : Addr → Prop} {h : Heap} : ∀ {vs : List Value} {ds : List D} {vs' : List Value} {ds' : List D}, IsAll X h vs ds → IsAll X h vs' ds' → IsAll X h (vs ++ vs') (ds ++ ds')
  | _, _, _, _, .nil, b => b
  | _, _, _, _, .cons a r, b => .cons a (IsAll.append r b)
theorem IsAll.get {X : Addr → Prop} {h : Heap} : ∀ {vs : List Value} {ds : List D}, IsAll X h vs ds → ∀ {i : Nat} {d : D}, ds[i]? = some d → ∃ v, vs[i]? = some v ∧ Is X h v d
  | _, _, .nil, i, d, e => by simp at e
  | _, _, .cons a r, 0, d, e => by simp at e; subst e; exact ⟨_, rfl, a⟩
  | _, _, .cons a r, i + 1, d, e => by
    simp only [List.getElem?_cons_succ] at e ⊢
    exact IsAll.get r e
theorem IsAll.drop {X : Addr → Prop} {h : Heap} : ∀ {vs : List Value} {ds : List D}, IsAll X h vs ds → ∀ (i : Nat), IsAll X h (vs.drop i) (ds.drop i)
  | _, _, a, 0 => a
  | _, _, .nil, i + 1 => .nil
  | _, _, .cons a r, i + 1 => IsAll.drop r i
theorem IsAll.take {X : Addr → Prop} {h : Heap} : ∀ {vs : List Value} {ds : List D}, IsAll X h vs ds → ∀ (i : Nat), IsAll X h (vs.take i) (ds.take i)
  | _, _, a, 0 => .nil
  | _, _, .nil, i + 1 => .nil
  | _, _, .cons a r, i + 1 => .cons a (IsAll.take r i)

/-- a context: what is around, the frame, the reserved addresses, those that may be written -/
structure Cx where
  A : Around
  env : Env
  X : Addr → Prop
  W : Addr → Prop

def HasVar (env : Env) (h : Heap) (x : Str) (v : Value) : Prop :=
  (env.kindOf x = some .local ∧ ∃ m, h.Ns env.locals m ∧ m x = some v) ∨ ((env.kindOf x = some .cell ∨ env.kindOf x = some .free) ∧ ∃ c, env.cells.lookup x = some c ∧ h.IsCell c (some v))
theorem HasVar.keeps {env : Env} {h h' : Heap} {x : Str} {v : Value} (H : HasVar env h x v) (k : ∀ b o, h.get? b = some o → h'.get? b = some o) : HasVar env h' x v := by
  rcases H with ⟨a, m, b, c⟩ | ⟨a, c, b, d⟩
  · exact .inl ⟨a, m, b.keeps k, c⟩
  · exact .inr ⟨a, c, b, d.keeps k⟩

abbrev Vs := List (Str × D)

structure Good (h₀ : Heap) (C : Cx) : Prop where
  fn : C.env.scope.kind = .function
  glob : C.env.globals = mainGlobals
  bi : C.env.builtins = builtinsNs
  hh : C.A.handled = none
  sub : ∀ a, C.W a → C.X a
  wnew : ∀ a, C.W a → h₀.get? a = none
  wloc : C.W C.env.locals
  apart : ∀ x y c, C.env.cells.lookup x = some c → C.env.cells.lookup y = some c → x = y
  cl : ∀ x, (C.env.kindOf x = some .cell ∨ C.env.kindOf x = some .free) → (C.env.cells.lookup x).isSome = true

structure Sat (h₀ : Heap) (C : Cx) (ρ : Vs) (s : Shared) : Prop where
  good : Good h₀ C
  gens : s.gens = #[]
  toks : @LE.le Nat _ 1 s.toks
  top : ∀ b o, h₀.get? b = some o → s.heap.get? b = some o
  alloc : ∀ a, C.X a → ∃ o, s.heap.get? a = some o
  loc : ∃ m, s.heap.Ns C.env.locals m
  cells : ∀ x c, C.env.cells.lookup x = some c → ∃ v, s.heap.IsCell c v
  vars : ∀ p ∈ ρ, ∃ v, Is C.X s.heap v p.2 ∧ HasVar C.env s.heap p.1 v

theorem Sat.keeps {h₀ : Heap} {C : Cx} {ρ : Vs} {s s' : Shared} (H : Sat h₀ C ρ s) (k : Keeps s s') : Sat h₀ C ρ s' := by
  have k' := k
  have kl := keeps_le k
  obtain ⟨h', t', rfl, _, kk⟩ := k'
  refine ⟨H.good, H.gens, Nat.le_trans H.toks kl, fun b o e => kk b o (H.top b o e), fun a xa => ?_, ?_, fun x c e => ?_, fun p hp => ?_⟩
  · obtain ⟨o, e⟩ := H.alloc a xa; exact ⟨o, kk a o e⟩
  · obtain ⟨m, e⟩ := H.loc; exact ⟨m, e.keeps kk⟩
  · obtain ⟨v, e'⟩ := H.cells x c e; exact ⟨v, e'.keeps kk⟩
  · obtain ⟨v, a, b⟩ := H.vars p hp; exact ⟨v, a.keeps k, b.keeps kk⟩
theorem Sat.sub {h₀ : Heap} {C : Cx} {ρ ρ' : Vs} {s : Shared} (H : Sat h₀ C ρ s) (hs : ∀ p ∈ ρ', p ∈ ρ) : Sat h₀ C ρ' s :=
  ⟨H.good, H.gens, H.toks, H.top, H.alloc, H.loc, H.cells, fun p hp => H.vars p (hs p hp)⟩
theorem Sat.fresh {h₀ : Heap} {C : Cx} {ρ : Vs} {s : Shared} (H : Sat h₀ C ρ s) : ¬ C.X s.heap.objs.size := fun q => by
  obtain ⟨o, e⟩ := H.alloc _ q
  exact Nat.lt_irrefl _ (Heap.lt_size e)

def no : Value → Shared → Prop := fun _ _ => False

section
variable {prog : Program} {w : World} {h₀ : Heap} {C : Cx} {ρ : Vs}

/-- the expression e comes to the data d, and changes nothing that stands -/
def EvD (prog : Program) (w : World) (h₀ : Heap) (C : Cx) (ρ : Vs) (e : Expr) (d : D) : Prop :=
  ∀ s, Sat h₀ C ρ s → wpAny (model prog w) C.A (eval e C.env) (fun v s' => Keeps s s' ∧ Is C.X s'.heap v d) no s
/-- the expression e comes to this very value -/
def EvV (prog : Program) (w : World) (h₀ : Heap) (C : Cx) (ρ : Vs) (e : Expr) (v : Value) : Prop :=
  ∀ s, Sat h₀ C ρ s → wpAny (model prog w) C.A (eval e C.env) (fun v' s' => Keeps s s' ∧ v' = v) no s
/-- the test e comes out as b -/
def TrD (prog : Program) (w : World) (h₀ : Heap) (C : Cx) (ρ : Vs) (e : Expr) (b : Bool) : Prop :=
  ∀ s, Sat h₀ C ρ s → wpAny (model prog w) C.A (isTrue e C.env (eval e C.env)) (fun b' s' => Keeps s s' ∧ b' = b) no s

theorem EvD.then {e : Expr} {d : D} (h : EvD prog w h₀ C ρ e d) {s : Shared} (H : Sat h₀ C ρ s) {Q : Value → Shared → Prop} {E : Value → Shared → Prop}
    (k : ∀ v s', Keeps s s' → Sat h₀ C ρ s' → Is C.X s'.heap v d → Q v s') : wpAny (model prog w) C.A (eval e C.env) Q E s :=
  wpAny_mono (h s H) (fun v s' z => k v s' z.1 (H.keeps z.1) z.2) fun _ _ z => z.elim
theorem EvV.then {e : Expr} {v : Value} (h : EvV prog w h₀ C ρ e v) {s : Shared} (H : Sat h₀ C ρ s) {Q : Value → Shared → Prop} {E : Value → Shared → Prop}
    (k : ∀ s', Keeps s s' → Sat h₀ C ρ s' → Q v s') : wpAny (model prog w) C.A (eval e C.env) Q E s :=
  wpAny_mono (h s H) (fun v s' z => by rw [z.2]; exact k s' z.1 (H.keeps z.1)) fun _ _ z => z.elim
theorem TrD.then {e : Expr} {b : Bool} (h : TrD prog w h₀ C ρ e b) {s : Shared} (H : Sat h₀ C ρ s) {Q : Bool → Shared → Prop} {E : Value → Shared → Prop}
    (k : ∀ s', Keeps s s' → Sat h₀ C ρ s' → Q b s') : wpAny (model prog w) C.A (isTrue e C.env (eval e C.env)) Q E s :=
  wpAny_mono (h s H) (fun v s' z => by rw [z.2]; exact k s' z.1 (H.keeps z.1)) fun _ _ z => z.elim
theorem EvD.eq {e : Expr} {d d' : D} (h : EvD prog w h₀ C ρ e d) (q : d = d') : EvD prog w h₀ C ρ e d' := q ▸ h
theorem TrD.eq {e : Expr} {d d' : Bool} (h : TrD prog w h₀ C ρ e d) (q : d = d') : TrD prog w h₀ C ρ e d' := q ▸ h
theorem EvD.sub {e : Expr} {d : D} {ρ' : Vs} (h : EvD prog w h₀ C ρ e d) (hs : ∀ p ∈ ρ, p ∈ ρ') : EvD prog w h₀ C ρ' e d := fun s H => h s (H.sub hs)

/-! names, constants -/
theorem ev_name {x : Str} {pos : Pos} {d : D} (hm : (x, d) ∈ ρ) (hd : (x == ("__debug__" : Str)) = false := by decide +kernel) (hn : (x == ("__classdict__" : Str)) = false := by decide +kernel) : EvD prog w h₀ C ρ (.Name x pos) d := fun s H => by
  obtain ⟨v, i, hv⟩ := H.vars _ hm
  refine wpAny_Name ?_ hd
  rcases hv with ⟨a, m, b, c⟩ | ⟨a | a, c, b, e⟩
  · exact wpAny_loadName_local H.good.fn a b c ⟨keeps_refl s, i⟩
  · exact wpAny_loadName_cell H.good.fn a b e ⟨keeps_refl s, i⟩
  · exact wpAny_loadName_free H.good.fn a b e ⟨keeps_refl s, i⟩ hn
theorem ev_int {i : Int} {k : Nat} {pos : Pos} : EvD prog w h₀ C ρ (.Constant (.int i) k pos) (.int i) := fun s _ => wpAny_Constant_int ⟨keeps_toks s _, .int _ _⟩
theorem ev_str {x : Str} {k : Nat} {pos : Pos} : EvD prog w h₀ C ρ (.Constant (.str x) k pos) (.str x) := fun s _ => wpAny_Constant_str ⟨keeps_toks s _, .str _ _⟩
theorem ev_bool {b : Bool} {k : Nat} {pos : Pos} : EvD prog w h₀ C ρ (.Constant (.bool b) k pos) (.bool b) := fun s _ => wpAny_Constant_bool ⟨keeps_refl s, .bool _⟩

theorem Is.int_inv {X : Addr → Prop} {h : Heap} {v : Value} {i : Int} (q : Is X h v (.int i)) : ∃ t, v = .int i t := by cases q; exact ⟨_, rfl⟩
theorem Is.str_inv {X : Addr → Prop} {h : Heap} {v : Value} {i : Str} (q : Is X h v (.str i)) : ∃ t, v = .str i t := by cases q; exact ⟨_, rfl⟩
theorem Is.bool_inv {X : Addr → Prop} {h : Heap} {v : Value} {i : Bool} (q : Is X h v (.bool i)) : v = .bool i := by cases q; rfl
theorem Is.list_inv {X : Addr → Prop} {h : Heap} {v : Value} {ds : List D} (q : Is X h v (.list ds)) : ∃ a vs n, v = .ref a ∧ ¬ X a ∧ h.get? a = some (listObj vs n) ∧ IsAll X h vs ds := by cases q; exact ⟨_, _, _, rfl, ‹_›, ‹_›, ‹_›⟩
theorem Is.tup_inv {X : Addr → Prop} {h : Heap} {v : Value} {ds : List D} (q : Is X h v (.tup ds)) : ∃ a vs n, v = .ref a ∧ ¬ X a ∧ h.get? a = some (tupObj vs n) ∧ IsAll X h vs ds := by cases q; exact ⟨_, _, _, rfl, ‹_›, ‹_›, ‹_›⟩

/-! two operands -/
theorem ev_bin {l r : Expr} {op : Operator} {pos : Pos} {a b d : D} (hl : EvD prog w h₀ C ρ l a) (hr : EvD prog w h₀ C ρ r b)
    (h : ∀ va vb s, Sat h₀ C ρ s → Is C.X s.heap va a → Is C.X s.heap vb b → wpAny (model prog w) C.A (binaryOp op va vb) (fun v s' => Keeps s s' ∧ Is C.X s'.heap v d) no s) : EvD prog w h₀ C ρ (.BinOp l op r pos) d := fun s H =>
  wpAny_BinOp (hl.then H fun va s₁ k₁ H₁ i₁ => hr.then H₁ fun vb s₂ k₂ H₂ i₂ => wpAny_mono (h va vb s₂ H₂ (i₁.keeps k₂) i₂) (fun _ _ z => ⟨keeps_trans k₁ (keeps_trans k₂ z.1), z.2⟩) fun _ _ z => z)
theorem ev_cmp {l r : Expr} {op : CmpOp} {pos : Pos} {a b d : D} (hl : EvD prog w h₀ C ρ l a) (hr : EvD prog w h₀ C ρ r b)
    (h : ∀ va vb s, Sat h₀ C ρ s → Is C.X s.heap va a → Is C.X s.heap vb b → wpAny (model prog w) C.A (compareOp op va vb) (fun v s' => Keeps s s' ∧ Is C.X s'.heap v d) no s)
    (hm : behindInMarks op r = false := by with_unfolding_all rfl) : EvD prog w h₀ C ρ (.Compare l [op] [r] pos) d := fun s H =>
  wpAny_Compare1 (hl.then H fun va s₁ k₁ H₁ i₁ => hr.then H₁ fun vb s₂ k₂ H₂ i₂ => wpAny_mono (h va vb s₂ H₂ (i₁.keeps k₂) i₂) (fun _ _ z => ⟨keeps_trans k₁ (keeps_trans k₂ z.1), z.2⟩) fun _ _ z => z) hm
theorem tr_cmp {l r : Expr} {op : CmpOp} {pos : Pos} {a b : D} {d : Bool} (hl : EvD prog w h₀ C ρ l a) (hr : EvD prog w h₀ C ρ r b)
    (h : ∀ va vb s, Sat h₀ C ρ s → Is C.X s.heap va a → Is C.X s.heap vb b → wpAny (model prog w) C.A (compareOp op va vb) (fun v s' => Keeps s s' ∧ Is C.X s'.heap v (.bool d)) no s)
    (hm : behindInMarks op r = false := by with_unfolding_all rfl) : TrD prog w h₀ C ρ (.Compare l [op] [r] pos) d := fun s H =>
  wpAny_isTrue_Compare1 (hl.then H fun va s₁ k₁ H₁ i₁ => hr.then H₁ fun vb s₂ k₂ H₂ i₂ => wpAny_mono (h va vb s₂ H₂ (i₁.keeps k₂) i₂) (fun v s₃ z => by
    rw [z.2.bool_inv]
    exact wpAny_truthy_bool ⟨keeps_trans k₁ (keeps_trans k₂ z.1), rfl⟩) fun _ _ z => z) hm

/-- what an operator makes of two data -/
def BinD (prog : Program) (w : World) (h₀ : Heap) (C : Cx) (ρ : Vs) (op : Operator) (a b d : D) : Prop :=
  ∀ va vb s, Sat h₀ C ρ s → Is C.X s.heap va a → Is C.X s.heap vb b → wpAny (model prog w) C.A (binaryOp op va vb) (fun v s' => Keeps s s' ∧ Is C.X s'.heap v d) no s
def CmpD (prog : Program) (w : World) (h₀ : Heap) (C : Cx) (ρ : Vs) (op : CmpOp) (a b : D) (d : Bool) : Prop :=
  ∀ va vb s, Sat h₀ C ρ s → Is C.X s.heap va a → Is C.X s.heap vb b → wpAny (model prog w) C.A (compareOp op va vb) (fun v s' => Keeps s s' ∧ Is C.X s'.heap v (.bool d)) no s

theorem bin_add_int {a b : Int} : BinD prog w h₀ C ρ .Add (.int a) (.int b) (.int (a + b)) := fun va vb s H ia ib => by
  obtain ⟨t, rfl⟩ := ia.int_inv; obtain ⟨u, rfl⟩ := ib.int_inv
  exact add_int ⟨keeps_toks s _, .int _ _⟩
theorem bin_sub_int {a b : Int} : BinD prog w h₀ C ρ .Sub (.int a) (.int b) (.int (a - b)) := fun va vb s H ia ib => by
  obtain ⟨t, rfl⟩ := ia.int_inv; obtain ⟨u, rfl⟩ := ib.int_inv
  exact sub_int' ⟨keeps_toks s _, .int _ _⟩
theorem bin_sub_bool {p q : Bool} : BinD prog w h₀ C ρ .Sub (.bool p) (.bool q) (.int ((if p then 1 else 0) - (if q then 1 else 0))) := fun va vb s H ia ib => by
  cases ia.bool_inv; cases ib.bool_inv
  refine sub_bool ⟨keeps_toks s _, ?_⟩
  cases p <;> cases q <;> exact .int _ _
theorem bin_add_str {x y : Str} (hsz : x.length + y.length ≤ sizeLine) : BinD prog w h₀ C ρ .Add (.str x) (.str y) (.str (x ++ y)) := fun va vb s H ia ib => by
  obtain ⟨t, rfl⟩ := ia.str_inv; obtain ⟨u, rfl⟩ := ib.str_inv
  exact up (PyProof.Rows.add_str (fun _ _ => ⟨keeps0_toks s _, .str _ _⟩) hsz)
theorem cmp_eq_int {a b : Int} : CmpD prog w h₀ C ρ .Eq (.int a) (.int b) (a == b) := fun va vb s H ia ib => by
  obtain ⟨t, rfl⟩ := ia.int_inv; obtain ⟨u, rfl⟩ := ib.int_inv
  exact PyProof.Rows.eq_int ⟨keeps_refl s, .bool _⟩
theorem cmp_lt_int {a b : Int} : CmpD prog w h₀ C ρ .Lt (.int a) (.int b) (decide (a < b)) := fun va vb s H ia ib => by
  obtain ⟨t, rfl⟩ := ia.int_inv; obtain ⟨u, rfl⟩ := ib.int_inv
  exact PyProof.Rows.lt_int ⟨keeps_refl s, .bool _⟩
theorem cmp_le_int {a b : Int} : CmpD prog w h₀ C ρ .LtE (.int a) (.int b) (decide (a ≤ b)) := fun va vb s H ia ib => by
  obtain ⟨t, rfl⟩ := ia.int_inv; obtain ⟨u, rfl⟩ := ib.int_inv
  exact PyProof.Rows.le_int ⟨keeps_refl s, .bool _⟩
theorem cmp_lt_str {a b : Str} : CmpD prog w h₀ C ρ .Lt (.str a) (.str b) (decide (a.cps.toList < b.cps.toList)) := fun va vb s H ia ib => by
  obtain ⟨t, rfl⟩ := ia.str_inv; obtain ⟨u, rfl⟩ := ib.str_inv
  exact PyProof.Rows.lt_str ⟨keeps_refl s, .bool _⟩
theorem cmp_eq_str {a b : Str} : CmpD prog w h₀ C ρ .Eq (.str a) (.str b) (a == b) := fun va vb s H ia ib => by
  obtain ⟨t, rfl⟩ := ia.str_inv; obtain ⟨u, rfl⟩ := ib.str_inv
  exact PyProof.Rows.eq_str ⟨keeps_refl s, .bool _⟩
end
end Mine

set_option Elab.async false
set_option linter.unusedVariables false
namespace Mine

/-! stores -/
def put (ρ : Vs) (x : Str) (d : D) : Vs := (x, d) :: ρ.filter fun p => !(p.1 == x)
theorem put_head {ρ : Vs} {x : Str} {d : D} : (x, d) ∈ put ρ x d := List.Mem.head _
theorem put_tail {ρ : Vs} {x y : Str} {d e : D} (h : (y == x) = false) (m : (y, e) ∈ ρ) : (y, e) ∈ put ρ x d :=
  List.Mem.tail _ (List.mem_filter.mpr ⟨m, by simp [h]⟩)
theorem put_inv {ρ : Vs} {x : Str} {d : D} {p : Str × D} (h : p ∈ put ρ x d) : p = (x, d) ∨ (p ∈ ρ ∧ p.1 ≠ x) := by
  rcases List.mem_cons.mp h with h | h
  · exact .inl h
  · obtain ⟨a, b⟩ := List.mem_filter.mp h
    exact .inr ⟨a, by simpa using b⟩

theorem Ns.ne_cell {h : Heap} {a c : Addr} {m : Str → Option Value} {v : Option Value} (n : h.Ns a m) (k : h.IsCell c v) : a ≠ c := by
  rintro rfl
  obtain ⟨o, es, ep, ho, hd, _⟩ := n
  obtain ⟨o', ho', hd'⟩ := k
  rw [ho] at ho'
  cases ho'
  rw [hd] at hd'
  cases hd'

section
variable {prog : Program} {w : World} {h₀ : Heap} {C : Cx} {ρ : Vs}

/-- a name may be stored into -/
def Stores (C : Cx) (x : Str) : Prop := C.env.kindOf x = some .local ∨ (C.env.kindOf x = some .cell ∧ ∃ c, C.env.cells.lookup x = some c ∧ C.W c)

theorem store_name {x : Str} {d : D} (hk : Stores C x) {s : Shared} {v : Value} (H : Sat h₀ C ρ s) (i : Is C.X s.heap v d) :
    wpAny (model prog w) C.A (storeName C.env x v) (fun _ s' => KeepsW C.W s s' ∧ Sat h₀ C (put ρ x d) s') no s := by
  obtain ⟨m, hm⟩ := H.loc
  rcases hk with hk | ⟨hk, c, hc, hw⟩
  · refine wpAny_storeName_local hk hm (fun h' hn hs => ?_) (by rw [H.good.fn]; rfl)
    have kw : KeepsW C.W s { s with heap := h', toks := s.toks + 1 } := ⟨h', _, rfl, Nat.le_add_right _ _, fun b o nb e => (hs.2 b (fun q => nb (q ▸ H.good.wloc))).trans e⟩
    refine ⟨kw, H.good, H.gens, Nat.le_trans H.toks (keepsW_le kw), fun b o e => keepsW_get kw (fun q => ?_) (H.top b o e), fun a xa => ?_, ⟨_, hn⟩, fun y c e => ?_, fun p hp => ?_⟩
    · rw [H.good.wnew b q] at e; cases e
    · by_cases ea : a = C.env.locals
      · obtain ⟨o, _, _, ho, _⟩ := hn; exact ⟨o, ea ▸ ho⟩
      · obtain ⟨o, e⟩ := H.alloc a xa; exact ⟨o, (hs.2 a ea).trans e⟩
    · obtain ⟨v', e'⟩ := H.cells y c e
      exact ⟨v', e'.sameBut hs (Ne.symm (Ns.ne_cell hm e'))⟩
    · rcases put_inv hp with rfl | ⟨hp, ne⟩
      · exact ⟨v, i.keepsW kw H.good.sub, .inl ⟨hk, _, hn, by simp⟩⟩
      · obtain ⟨v', i', hv⟩ := H.vars p hp
        refine ⟨v', i'.keepsW kw H.good.sub, ?_⟩
        rcases hv with ⟨a, m', b, e⟩ | ⟨a, c, b, e⟩
        · refine .inl ⟨a, _, hn, ?_⟩
          have : m p.1 = m' p.1 := by
            obtain ⟨o, es, ep, ho, hd, _, hf⟩ := hm
            obtain ⟨o', es', ep', ho', hd', _, hf'⟩ := b
            rw [ho] at ho'; cases ho'
            rw [hd] at hd'; cases hd'
            rw [← hf, ← hf']
          simp only [ne, if_false, this, e]
        · exact .inr ⟨a, c, b, e.sameBut hs (Ne.symm (Ns.ne_cell hm e))⟩
  · obtain ⟨v₀, h0⟩ := H.cells x c hc
    refine wpAny_storeName_cell H.good.fn hk hc h0 fun h' hn hs => ?_
    have kw : KeepsW C.W s { s with heap := h' } := ⟨h', _, rfl, Nat.le_refl _, fun b o nb e => (hs.2 b (fun q => nb (q ▸ hw))).trans e⟩
    have lne : C.env.locals ≠ c := Ns.ne_cell hm h0
    refine ⟨kw, H.good, H.gens, Nat.le_trans H.toks (keepsW_le kw), fun b o e => keepsW_get kw (fun q => ?_) (H.top b o e), fun a xa => ?_, ⟨m, hm.sameBut hs lne⟩, fun y c' e => ?_, fun p hp => ?_⟩
    · rw [H.good.wnew b q] at e; cases e
    · by_cases ea : a = c
      · obtain ⟨o, ho, _⟩ := hn; exact ⟨o, ea ▸ ho⟩
      · obtain ⟨o, e⟩ := H.alloc a xa; exact ⟨o, (hs.2 a ea).trans e⟩
    · by_cases ec : c' = c
      · exact ⟨_, ec ▸ hn⟩
      · obtain ⟨v', e'⟩ := H.cells y c' e
        exact ⟨v', e'.sameBut hs ec⟩
    · rcases put_inv hp with rfl | ⟨hp, ne⟩
      · exact ⟨v, i.keepsW kw H.good.sub, .inr ⟨.inl hk, c, hc, hn⟩⟩
      · obtain ⟨v', i', hv⟩ := H.vars p hp
        refine ⟨v', i'.keepsW kw H.good.sub, ?_⟩
        rcases hv with ⟨a, m', b, e⟩ | ⟨a, c', b, e⟩
        · exact .inl ⟨a, m', b.sameBut hs lne, e⟩
        · exact .inr ⟨a, c', b, e.sameBut hs fun q => ne (H.good.apart _ _ _ b (q ▸ hc))⟩

/-- assigning the data d to the target turns the variables ρ into ρ' -/
def AsgD (prog : Program) (w : World) (h₀ : Heap) (C : Cx) (ρ : Vs) (t : Expr) (d : D) (ρ' : Vs) : Prop :=
  ∀ v s, Sat h₀ C ρ s → Is C.X s.heap v d → wpAny (model prog w) C.A (assign t C.env v) (fun _ s' => KeepsW C.W s s' ∧ Sat h₀ C ρ' s') no s

theorem asg_name {x : Str} {pos : Pos} {d : D} (hk : Stores C x) : AsgD prog w h₀ C ρ (.Name x pos) d (put ρ x d) := fun v s H i =>
  wpAny_assign_Name (store_name hk H i)

theorem IsAll.two {X : Addr → Prop} {h : Heap} {vs : List Value} {a b : D} (q : IsAll X h vs [a, b]) : ∃ v u, vs = [v, u] ∧ Is X h v a ∧ Is X h u b := by
  cases q with
  | cons x r => cases r with
    | cons y r => cases r; exact ⟨_, _, rfl, x, y⟩

theorem isTuple_of {h : Heap} {a : Addr} {vs : List Value} {n : Nat} (e : h.get? a = some (tupObj vs n)) : h.IsTuple a vs.toArray := ⟨_, e, rfl, n, rfl⟩
theorem isTup_of {h : Heap} {a : Addr} {vs : List Value} {n : Nat} (e : h.get? a = some (tupObj vs n)) : IsTup h a vs.toArray := ⟨_, e, rfl, n, rfl⟩
theorem isList_of {h : Heap} {a : Addr} {vs : List Value} {n : Nat} (e : h.get? a = some (listObj vs n)) : h.IsList a vs.toArray := ⟨_, e, rfl, n, rfl⟩

theorem asg_two {x y : Str} {px py pos : Pos} {k : Nat} {a b : D} (hx : Stores C x) (hy : Stores C y) : AsgD prog w h₀ C ρ (.Tuple [.Name x px, .Name y py] k pos) (.tup [a, b]) (put (put ρ x a) y b) := fun v s H i => by
  obtain ⟨ad, vs, n, rfl, hX, ho, hs⟩ := i.tup_inv
  obtain ⟨v, u, rfl, iv, iu⟩ := hs.two
  refine wpAny_assign_Tuple H.good.hh (isTuple_of ho) rfl rfl fun h' he => ?_
  have k0 : Keeps s { s with heap := h' } := keeps_heap fun b o e => he b o (Nat.ne_of_lt (Heap.lt_size e)) e
  show wpAny _ _ (do holding [u] (assign (.Name x px) C.env v); holding [] (assign (.Name y py) C.env u); pure ()) _ _ _
  refine wpAny_bind (wpAny_holding (wpAny_assign_Name (wpAny_mono (store_name hx (H.keeps k0) (iv.keeps k0)) (fun _ s₁ h₁ => ?_) fun _ _ z => z)))
  refine wpAny_bind (wpAny_holding (wpAny_assign_Name (wpAny_mono (store_name hy h₁.2 ((iu.keeps k0).keepsW h₁.1 H.good.sub)) (fun _ s₂ h₂ => ?_) fun _ _ z => z)))
  exact wpAny_pure ⟨keepsW_trans (keepsW_of k0) (keepsW_trans h₁.1 h₂.1), h₂.2⟩

/-! iterators -/
def ownsTuples : List String := ["enumerate", "zip", "dict_itemiterator", "dict_reverseitemiterator", "odict_iterator", "itertools.zip_longest", "itertools.pairwise"]
structure ItAt (prog : Program) (w : World) (A : Around) (X : Addr → Prop) (I : Addr) (ds : List D) (h : Heap) : Prop where
  ex : ∃ (fp wr : List Addr) (n : Nat) (P : Nat → Value → Prop) (St : Nat → Heap → Prop) (i : Nat), Walks prog w A I fp wr n P St ∧ St i h ∧ (∀ b ∈ wr, b = I) ∧ (∀ b ∈ fp, b = I ∨ ¬ X b) ∧
    n = i + ds.length ∧ (∀ j d v, ds[j]? = some d → P (i + j) v → Is X h v d) ∧ ∀ i h, St i h → ∃ o n, h.get? I = some o ∧ o.cls = .type n ∧ ownsTuples.contains n = false ∧ ∃ fs, o.data = .fields fs
theorem ItAt.keep {A : Around} {X : Addr → Prop} {I : Addr} {ds : List D} {h h' : Heap} (q : ItAt prog w A X I ds h) (k : ∀ b o, (b = I ∨ ¬ X b) → h.get? b = some o → h'.get? b = some o) : ItAt prog w A X I ds h' := by
  obtain ⟨fp, wr, n, P, St, i, W, st, hw, hf, hn, hP, hc⟩ := q.ex
  exact ⟨fp, wr, n, P, St, i, W, W.frame i h h' st (fun b hb o e => k b o (hf b hb) e), hw, hf, hn, fun j d v e p => (hP j d v e p).mono fun b o nb e => ⟨nb, k b o (.inr nb) e⟩, hc⟩
theorem ItAt.next {A : Around} {X : Addr → Prop} {I : Addr} {ds : List D} {s : Shared} (hX : X I) (q : ItAt prog w A X I ds s.heap) :
    wpAny (model prog w) A (pyNext (.ref I)) (fun r s' => KeepsW (· = I) s s' ∧ match ds with
      | [] => r = none
      | d :: ds' => ∃ v, r = some v ∧ Is X s'.heap v d ∧ ItAt prog w A X I ds' s'.heap) no s := by
  obtain ⟨fp, wr, n, P, St, i, W, st, hw, hf, hn, hP, hc⟩ := q.ex
  refine wpAny_with_toks (n := s.toks) (Nat.le_refl _) ?_
  cases ds with
  | nil =>
    have : n = i := by simpa using hn
    subst this
    exact W.done s _ _ st fun h' tk hk l => ⟨⟨h', tk, rfl, l, fun b o nb e => hk b o (fun z => nb (hw b z)) e⟩, rfl⟩
  | cons d ds =>
    refine W.item i s _ _ (by simp at hn; omega) st fun v h' tk hv st' hk l => ?_
    have kw : KeepsW (· = I) s { s with heap := h', toks := tk } := ⟨h', tk, rfl, l, fun b o nb e => hk b o (fun z => nb (hw b z)) e⟩
    refine ⟨kw, v, rfl, (hP 0 d v rfl hv).keepsW kw fun a ea => by subst ea; exact hX, ⟨fp, wr, n, P, St, i + 1, W, st', hw, hf, ?_, fun j d' v' e p => ?_, hc⟩⟩
    · simp at hn; omega
    · refine (hP (j + 1) d' v' (by simpa using e) ?_).keepsW kw fun a ea => by subst ea; exact hX
      rw [show i + (j + 1) = i + 1 + j by omega]; exact p
theorem ItAt.self {A : Around} {X : Addr → Prop} {I : Addr} {ds : List D} {s : Shared} (q : ItAt prog w A X I ds s.heap) {Q : Value → Shared → Prop} {E : Value → Shared → Prop} (h : Q (.ref I) s) :
    wpAny (model prog w) A (pyIter (.ref I)) Q E s := by
  obtain ⟨fp, wr, n, P, St, i, W, st, _⟩ := q.ex
  exact W.self i s Q E st h
theorem ItAt.owned {A : Around} {X : Addr → Prop} {I : Addr} {ds : List D} {s : Shared} (q : ItAt prog w A X I ds s.heap) (t : Expr) (v : Value) {Q : Unit → Shared → Prop} {E : Value → Shared → Prop} (h : Q () s) :
    wpAny (model prog w) A (letOwnedTupleGo t (.ref I) v) Q E s := by
  obtain ⟨fp, wr, n, P, St, i, W, st, hw, hf, hn, hP, hc⟩ := q.ex
  obtain ⟨o, n, ho, hcl, hno, _⟩ := hc i _ st
  have key : wpAny (model prog w) A (do
    let (.ref r, .ref a) := (Value.ref I, v) | return
    let o ← load r
    match o.cls, o.data with
    | .type n, .fields vs =>
      if ["enumerate", "zip", "dict_itemiterator", "dict_reverseitemiterator", "odict_iterator", "itertools.zip_longest", "itertools.pairwise"].contains n && vs[0]? == some (rawInt a) then
        rule "for.unpacks-the-owned-tuple"
        updateField r 0 .none
    | _, _ => pure () : Sem Unit) Q E s := by
    cases v <;> first | exact wpAny_pure h | skip
    refine wpAny_bind (wpAny_load ho ?_)
    rw [hcl]
    cases o.data <;> first | exact wpAny_pure h | skip
    dsimp only
    unfold ownsTuples at hno
    rw [hno, Bool.false_and, if_neg Bool.false_ne_true]
    exact wpAny_pure h
  unfold letOwnedTupleGo
  split
  · exact key
  · exact key
  · exact wpAny_pure h

def intsFrom (lo : Int) : Nat → List D
  | 0 => []
  | n + 1 => .int lo :: intsFrom (lo + 1) n
theorem intsFrom_length (lo : Int) (n : Nat) : (intsFrom lo n).length = n := by
  induction n generalizing lo with
  | zero => rfl
  | succ n ih => simp [intsFrom, ih]
theorem intsFrom_get (lo : Int) (n j : Nat) (d : D) (e : (intsFrom lo n)[j]? = some d) : d = .int (lo + j) := by
  induction n generalizing lo j with
  | zero => simp [intsFrom] at e
  | succ n ih =>
    cases j with
    | zero => simp [intsFrom] at e; subst e; simp
    | succ j => simp only [intsFrom, List.getElem?_cons_succ] at e; rw [ih _ _ e]; congr 1; push_cast; omega

inductive IterD : D → List D → Prop
  | list (l : List D) : IterD (.list l) l
  | tup (l : List D) : IterD (.tup l) l
  | range {lo hi : Int} (n : Nat) (hs : Builtin.Range.small lo hi 1 = true) (hn : Builtin.Range.rangeSize lo hi 1 = n) : IterD (.range lo hi) (intsFrom lo n)
  | str (x : Str) : IterD (.str x) (x.cps.toList.map fun c => .str ⟨#[c]⟩)

theorem iter_D {A : Around} (hh : A.handled = none) {X : Addr → Prop} {s : Shared} {v : Value} {d : D} {ds : List D} (hX : ¬ X s.heap.objs.size) (hd : IterD d ds) (i : Is X s.heap v d) :
    wpAny (model prog w) A (pyIter v) (fun it s' => it = .ref s.heap.objs.size ∧ (∃ o, s' = { s with heap := s.heap.push o }) ∧ ∀ (A' : Around) (X' : Addr → Prop), A'.handled = none → (∀ a, X' a → X a ∨ @LE.le Nat _ s.heap.objs.size a) → ItAt prog w A' X' s.heap.objs.size ds s'.heap) no s := by
  have up : ∀ (X' : Addr → Prop) (hX' : ∀ a, X' a → X a ∨ @LE.le Nat _ s.heap.objs.size a) (o : Obj), ∀ {v : Value} {d : D}, Is X s.heap v d → Is X' (s.heap.push o) v d := fun X' hX' o v d q =>
    q.mono fun b o' nb e => ⟨fun z => (hX' b z).elim nb fun z => absurd (Heap.lt_size e) (Nat.not_lt.mpr z), Heap.get?_push_of_some _ e⟩
  cases hd with
  | list l =>
    obtain ⟨a, vs, n, rfl, ha, ho, hs⟩ := i.list_inv
    refine wpAny_pyIter_list (isList_of ho) ⟨rfl, ⟨_, rfl⟩, fun A' X' hA hX' => ⟨_, _, _, _, _, 0, Walks.list hA _ a (Nat.ne_of_lt (Heap.lt_size ho)) vs.toArray, ⟨⟨_, Heap.get?_push_size _ rfl, rfl, rfl⟩, (isList_of ho).push _⟩, by simp, ?_, ?_, ?_, ?_⟩⟩
    · intro b hb
      simp only [List.mem_cons, List.not_mem_nil, or_false] at hb
      rcases hb with rfl | rfl
      · exact .inl rfl
      · exact .inr fun z => (hX' _ z).elim ha fun z => absurd (Heap.lt_size ho) (Nat.not_lt.mpr z)
    · simp [hs.length]
    · intro j d v e p
      obtain ⟨v', e', i'⟩ := hs.get e
      simp only [Nat.zero_add, List.getElem?_toArray] at p
      rw [e'] at p; cases p
      exact up X' hX' _ i'
    · rintro i h ⟨⟨o, ho, hc, hd⟩, _⟩
      exact ⟨o, _, ho, hc, by decide, _, hd⟩
  | tup l =>
    obtain ⟨a, vs, n, rfl, ha, ho, hs⟩ := i.tup_inv
    refine wpAny_pyIter_tuple (isTuple_of ho) ⟨rfl, ⟨_, rfl⟩, fun A' X' hA hX' => ⟨_, _, _, _, _, 0, Walks.tuple hA _ a (Nat.ne_of_lt (Heap.lt_size ho)) vs.toArray, ⟨⟨_, Heap.get?_push_size _ rfl, rfl, rfl⟩, (isTuple_of ho).push _⟩, by simp, ?_, ?_, ?_, ?_⟩⟩
    · intro b hb
      simp only [List.mem_cons, List.not_mem_nil, or_false] at hb
      rcases hb with rfl | rfl
      · exact .inl rfl
      · exact .inr fun z => (hX' _ z).elim ha fun z => absurd (Heap.lt_size ho) (Nat.not_lt.mpr z)
    · simp [hs.length]
    · intro j d v e p
      obtain ⟨v', e', i'⟩ := hs.get e
      simp only [Nat.zero_add, List.getElem?_toArray] at p
      rw [e'] at p; cases p
      exact up X' hX' _ i'
    · rintro i h ⟨⟨o, ho, hc, hd⟩, _⟩
      exact ⟨o, _, ho, hc, by decide, _, hd⟩
  | @range lo hi n hs hn =>
    cases i with
    | range ha ho =>
      refine wpAny_pyIter_range ho hs ⟨rfl, ⟨_, rfl⟩, fun A' X' hA hX' => ⟨_, _, n, _, _, 0, Walks.range hA _ lo 1 n, ?_, by simp, by simp, by simp [intsFrom_length], ?_, ?_⟩⟩
      · simp only [Int.natCast_zero, Int.zero_mul, Int.add_zero, Int.sub_zero]
        rw [← hn]
        exact Heap.get?_push_size _ rfl
      · rintro j d v e ⟨t, rfl⟩
        rw [intsFrom_get _ _ _ _ e]
        simp only [Nat.zero_add, Int.mul_one]
        exact .int _ _
      · intro i h st
        exact ⟨_, _, st, rfl, by decide, _, rfl⟩
  | str x =>
    obtain ⟨t, rfl⟩ := i.str_inv
    cases ha : x.cps.all (· < 128)
    · refine wpAny_pyIter_wide ha ⟨rfl, ⟨_, rfl⟩, fun A' X' hA hX' => ⟨_, _, _, _, _, 0, Walks.strWide hA _ x t, ⟨_, Heap.get?_push_size _ rfl, rfl, rfl⟩, by simp, by simp, by simp, ?_, ?_⟩⟩
      · rintro j d v e ⟨c, u, hc, rfl⟩
        simp only [Nat.zero_add] at hc
        rw [List.getElem?_map, Array.getElem?_toList, hc] at e
        cases e; exact .str _ _
      · rintro i h ⟨o, ho, hc, hd⟩
        exact ⟨o, _, ho, hc, by decide, _, hd⟩
    · refine wpAny_pyIter_ascii ha ⟨rfl, ⟨_, rfl⟩, fun A' X' hA hX' => ⟨_, _, _, _, _, 0, Walks.strAscii hA _ x t, ⟨_, Heap.get?_push_size _ rfl, rfl, rfl⟩, by simp, by simp, by simp, ?_, ?_⟩⟩
      · rintro j d v e ⟨c, u, hc, rfl⟩
        simp only [Nat.zero_add] at hc
        rw [List.getElem?_map, Array.getElem?_toList, hc] at e
        cases e; exact .str _ _
      · rintro i h ⟨o, ho, hc, hd⟩
        exact ⟨o, _, ho, hc, by decide, _, hd⟩
end
end Mine

set_option Elab.async false
set_option linter.unusedVariables false
namespace Mine
section
variable {prog : Program} {w : World} {h₀ : Heap} {C : Cx} {ρ : Vs}

theorem ItAt.obj {A : Around} {X : Addr → Prop} {I : Addr} {ds : List D} {h : Heap} (q : ItAt prog w A X I ds h) : ∃ o fs, h.get? I = some o ∧ o.data = .fields fs := by
  obtain ⟨fp, wr, n, P, St, i, W, st, hw, hf, hn, hP, hc⟩ := q.ex
  obtain ⟨o, n, ho, _, _, fs, hd⟩ := hc i _ st
  exact ⟨o, fs, ho, hd⟩

theorem Ns.ne_of {h : Heap} {a b : Addr} {m : Str → Option Value} {o : Obj} (n : h.Ns a m) (e : h.get? b = some o) (hd : ∀ es k, o.data ≠ .dict es k) : a ≠ b := by
  rintro rfl
  obtain ⟨o', es, ep, ho, hd', _⟩ := n
  rw [ho] at e; cases e
  exact hd _ _ hd'
theorem IsCell.ne_of {h : Heap} {a b : Addr} {v : Option Value} {o : Obj} (n : h.IsCell a v) (e : h.get? b = some o) (hd : ∀ v, o.data ≠ .cell v) : a ≠ b := by
  rintro rfl
  obtain ⟨o', ho, hd'⟩ := n
  rw [ho] at e; cases e
  exact hd _ hd'
theorem Ns.keepsW {W : Addr → Prop} {s s' : Shared} {a : Addr} {m : Str → Option Value} (n : s.heap.Ns a m) (k : KeepsW W s s') (hn : ¬ W a) : s'.heap.Ns a m := by
  obtain ⟨o, es, ep, ho, r⟩ := n
  exact ⟨o, es, ep, keepsW_get k hn ho, r⟩
theorem IsCell.keepsW {W : Addr → Prop} {s s' : Shared} {a : Addr} {v : Option Value} (n : s.heap.IsCell a v) (k : KeepsW W s s') (hn : ¬ W a) : s'.heap.IsCell a v := by
  obtain ⟨o, ho, r⟩ := n
  exact ⟨o, keepsW_get k hn ho, r⟩

/-- an object that is no frame and no cell is written -/
theorem Sat.other {b : Addr} {o : Obj} {s s' : Shared} (H : Sat h₀ C ρ s) (e : s.heap.get? b = some o) (hd : ∀ es k, o.data ≠ .dict es k) (hc : ∀ v, o.data ≠ .cell v) (hX : C.X b) (h0 : h₀.get? b = none)
    (k : KeepsW (· = b) s s') (hb : ∃ o', s'.heap.get? b = some o') : Sat h₀ C ρ s' := by
  obtain ⟨m, hm⟩ := H.loc
  have gs : s'.gens = s.gens := by obtain ⟨h', t', rfl, _⟩ := k; rfl
  refine ⟨H.good, gs.trans H.gens, Nat.le_trans H.toks (keepsW_le k), fun a o' e' => keepsW_get k (fun q => ?_) (H.top a o' e'), fun a xa => ?_, ⟨m, Ns.keepsW hm k fun q => Ns.ne_of hm e hd q⟩, fun x c q => ?_, fun p hp => ?_⟩
  · subst q; rw [h0] at e'; cases e'
  · by_cases q : a = b
    · subst q; exact hb
    · obtain ⟨o', e'⟩ := H.alloc a xa; exact ⟨o', keepsW_get k q e'⟩
  · obtain ⟨v, hv⟩ := H.cells x c q
    exact ⟨v, IsCell.keepsW hv k fun q => IsCell.ne_of hv e hc q⟩
  · obtain ⟨v, i, hv⟩ := H.vars p hp
    refine ⟨v, i.keepsW k fun a q => by subst q; exact hX, ?_⟩
    rcases hv with ⟨a, m', b', c'⟩ | ⟨a, c', b', d'⟩
    · exact .inl ⟨a, m', Ns.keepsW b' k fun q => Ns.ne_of b' e hd q, c'⟩
    · exact .inr ⟨a, c', b', IsCell.keepsW d' k fun q => IsCell.ne_of d' e hc q⟩

def Cx.also (C : Cx) (I : Addr) : Cx := { C with X := fun a => C.X a ∨ a = I }
theorem Good.also (G : Good h₀ C) (I : Addr) : Good h₀ (C.also I) := ⟨G.fn, G.glob, G.bi, G.hh, fun a q => .inl (G.sub a q), G.wnew, G.wloc, G.apart, G.cl⟩
/-- an object new to the heap is reserved -/
theorem Sat.also {s : Shared} (H : Sat h₀ C ρ s) (o : Obj) (hf : o.isFreed = false) : Sat h₀ (C.also s.heap.objs.size) ρ { s with heap := s.heap.push o } := by
  have k := keeps_push s o
  have H' := H.keeps k
  refine ⟨H.good.also _, H'.gens, H'.toks, H'.top, fun a xa => ?_, H'.loc, H'.cells, fun p hp => ?_⟩
  · rcases xa with xa | rfl
    · exact H'.alloc a xa
    · exact ⟨o, Heap.get?_push_size _ hf⟩
  · obtain ⟨v, i, hv⟩ := H.vars p hp
    refine ⟨v, i.mono fun b o' nb e => ⟨fun z => z.elim nb fun z => ?_, keeps_get k e⟩, hv.keeps fun b o' e => keeps_get k e⟩
    rw [z] at e; exact Nat.lt_irrefl _ (Heap.lt_size e)
theorem Sat.also' {s : Shared} {I : Addr} (H : Sat h₀ (C.also I) ρ s) (G : Good h₀ C) : Sat h₀ C ρ s :=
  ⟨G, H.gens, H.toks, H.top, fun a xa => H.alloc a (.inl xa), H.loc, H.cells, fun p hp => let ⟨v, i, hv⟩ := H.vars p hp; ⟨v, i.less fun a q => .inl q, hv⟩⟩
/-- the iterator is done with -/
theorem Sat.alsoOut {s s' : Shared} {I : Addr} {o : Obj} (H : Sat h₀ (C.also I) ρ s) (G : Good h₀ C) (nX : ¬ C.X I) (e : s.heap.get? I = some o) (hd : ∀ es k, o.data ≠ .dict es k) (hc : ∀ v, o.data ≠ .cell v) (h0 : h₀.get? I = none)
    (k : KeepsW (· = I) s s') : Sat h₀ C ρ s' := by
  obtain ⟨m, hm⟩ := H.loc
  have gs : s'.gens = s.gens := by obtain ⟨h', t', rfl, _⟩ := k; rfl
  refine ⟨G, gs.trans H.gens, Nat.le_trans H.toks (keepsW_le k), fun a o' e' => keepsW_get k (fun q => ?_) (H.top a o' e'), fun a xa => ?_, ⟨m, Ns.keepsW hm k fun q => Ns.ne_of hm e hd q⟩, fun x c q => ?_, fun p hp => ?_⟩
  · subst q; rw [h0] at e'; cases e'
  · obtain ⟨o', e'⟩ := H.alloc a (.inl xa); exact ⟨o', keepsW_get k (fun q => nX (q ▸ xa)) e'⟩
  · obtain ⟨v, hv⟩ := H.cells x c q
    exact ⟨v, IsCell.keepsW hv k fun q => IsCell.ne_of hv e hc q⟩
  · obtain ⟨v, i, hv⟩ := H.vars p hp
    refine ⟨v, (i.keepsW k fun a q => .inr q).less fun a q => .inl q, ?_⟩
    rcases hv with ⟨a, m', b', c'⟩ | ⟨a, c', b', d'⟩
    · exact .inl ⟨a, m', Ns.keepsW b' k fun q => Ns.ne_of b' e hd q, c'⟩
    · exact .inr ⟨a, c', b', IsCell.keepsW d' k fun q => IsCell.ne_of d' e hc q⟩

/-- the list that a comprehension fills -/
def Fills (C : Cx) (acc : Addr) (out : List D) (h : Heap) : Prop := ∃ vs n, h.get? acc = some (listObj vs n) ∧ IsAll C.X h vs out
theorem Fills.keepsW {W : Addr → Prop} {acc : Addr} {out : List D} {s s' : Shared} (F : Fills C acc out s.heap) (k : KeepsW W s s') (hn : ¬ W acc) (hs : ∀ a, W a → C.X a) : Fills C acc out s'.heap := by
  obtain ⟨vs, n, e, i⟩ := F
  exact ⟨vs, n, keepsW_get k hn e, i.keepsW k hs⟩

def Keeps2 (W : Addr → Prop) (acc : Addr) : Shared → Shared → Prop := KeepsW fun a => W a ∨ a = acc

/-- one more item -/
theorem emit_D {acc : Addr} {out : List D} {elt : Expr} {d : D} {s : Shared} (H : Sat h₀ C ρ s) (F : Fills C acc out s.heap) (hX : C.X acc) (h0 : h₀.get? acc = none) (he : EvD prog w h₀ C ρ elt d) (hsz : out.length ≤ sizeLine) :
    wpAny (model prog w) C.A (do let _ ← call (.builtin "list.append") [.ref acc, ← eval elt C.env]) (fun _ s' => Sat h₀ C ρ s' ∧ Fills C acc (out ++ [d]) s'.heap ∧ KeepsW (· = acc) s s') no s := by
  refine wpAny_bind (he.then H fun v s₁ k₁ H₁ i₁ => wpAny_bind ?_)
  obtain ⟨vs, n, e, i⟩ := F
  have e₁ := keeps_get k₁ e
  refine wpAny_list_append_plain ⟨n, e₁⟩ (fun h' hp hs => wpAny_pure ?_) (by rw [List.size_toArray, i.length]; exact hsz)
  obtain ⟨n', e'⟩ := hp
  have kw : KeepsW (· = acc) s₁ { s₁ with heap := h' } := ⟨h', _, rfl, Nat.le_refl _, fun b o nb eb => (hs.2 b nb).trans eb⟩
  have e'' : h'.get? acc = some (listObj (vs ++ [v]) n') := by rw [e']; simp [listObj]
  refine ⟨H₁.other e₁ (fun _ _ q => by cases q) (fun _ q => by cases q) hX h0 kw ⟨_, e'⟩, ⟨vs ++ [v], n', e'', ?_⟩, keepsW_trans (keepsW_of k₁) kw⟩
  exact ((i.keeps k₁).keepsW kw fun a q => by subst q; exact hX).append (.cons (i₁.keepsW kw fun a q => by subst q; exact hX) .nil)

/-- a turn's tests -/
def compOk (ifs : List Expr) (env : Env) : Sem Bool := forIn ifs true fun c r => if r = true then do let ok ← isTrue c env (eval c env); pure (ForInStep.yield ok) else pure (ForInStep.yield r)
def IfsD (prog : Program) (w : World) (h₀ : Heap) (C : Cx) (ρ : Vs) (ifs : List Expr) (b : Bool) : Prop := match ifs with
  | [] => b = true
  | [c] => TrD prog w h₀ C ρ c b
  | _ => False
theorem ifs_D {ifs : List Expr} {b : Bool} {s : Shared} (H : Sat h₀ C ρ s) (h : IfsD prog w h₀ C ρ ifs b) : wpAny (model prog w) C.A (compOk ifs C.env) (fun ok s' => ok = b ∧ Keeps s s') no s := by
  unfold compOk
  match ifs, h with
  | [], h => exact wpAny_tests_nil ⟨h.symm, keeps_refl s⟩
  | [c], h => exact wpAny_tests_one (TrD.then h H fun s' k _ => ⟨rfl, k⟩)

/-- what a turn does behind the assignment -/
def InnerD (prog : Program) (w : World) (h₀ : Heap) (C : Cx) (ρ : Vs) (acc : Addr) (inner : Sem Unit) (f : List D) : Prop :=
  ∀ out s, Sat h₀ C ρ s → Fills C acc out s.heap → out.length + f.length ≤ sizeLine →
    wpAny (model prog w) C.A inner (fun _ s' => Sat h₀ C ρ s' ∧ Fills C acc (out ++ f) s'.heap ∧ Keeps2 C.W acc s s') no s

theorem inner_emit {acc : Addr} {elt : Expr} {d : D} (hX : C.X acc) (h0 : h₀.get? acc = none) (he : EvD prog w h₀ C ρ elt d) : InnerD prog w h₀ C ρ acc (do let _ ← call (.builtin "list.append") [.ref acc, ← eval elt C.env]) [d] := fun out s H F hsz =>
  wpAny_mono (emit_D H F hX h0 he (by simp at hsz; omega)) (fun _ _ z => ⟨z.1, z.2.1, keepsW_mono (fun a q => .inr q) z.2.2⟩) fun _ _ z => z

def turnTree (p : Pos) (target : Expr) (ifs : List Expr) (inner : Sem Unit) (I : Addr) (env : Env) (c : Code) : Sem Fin := do
  standAt p
  match ← pyNext (.ref I) with
  | none => pure (.done .next)
  | some v =>
    letOwnedTupleGo target (.ref I) v
    assign target env v
    let ok ← compOk ifs env
    if ok then inner
    again c

/-- the loop of a comprehension, whatever its turn does -/
theorem loop_D {α : Type} {elt : Expr} {gens : List Comprehension} {scope : Scope} {pos p : Pos} {k : Nat} {I acc : Addr} {target : Expr} {ifs : List Expr} {inner : Sem Unit} (inj : α → D) (f : α → List D)
    (G : Good h₀ C) (hturn : compTurn (.ListComp elt gens scope pos) k (.ref I) (.ref acc) C.env = turnTree p target ifs inner I C.env (.compLoop (.ListComp elt gens scope pos) k (.ref I) (.ref acc) C.env))
    (hXa : C.X acc) (hWa : ¬ C.W acc) (h0a : h₀.get? acc = none) (hXI : ¬ C.X I) (h0I : h₀.get? I = none)
    (xs : List α) (hbody : ∀ x ∈ xs, ∃ ρ' b, AsgD prog w h₀ (C.also I) ρ target (inj x) ρ' ∧ (∀ q ∈ ρ, q ∈ ρ') ∧ IfsD prog w h₀ (C.also I) ρ' ifs b ∧
      (b = true → InnerD prog w h₀ (C.also I) ρ' acc inner (f x)) ∧ (b = false → f x = [])) :
    ∀ (out : List D) (s : Shared) (R : Result → Shared → Prop), Sat h₀ (C.also I) ρ s → Fills (C.also I) acc out s.heap → ItAt prog w C.A (C.also I).X I (xs.map inj) s.heap → out.length + (xs.flatMap f).length ≤ sizeLine →
      (∀ s', Sat h₀ C ρ s' → Fills C acc (out ++ xs.flatMap f) s'.heap → KeepsW (fun a => C.W a ∨ a = acc ∨ a = I) s s' → R (.ok .next) s') →
      codeAny (model prog w) C.A (.compLoop (.ListComp elt gens scope pos) k (.ref I) (.ref acc) C.env) R s := by
  have hWI : ¬ C.W I := fun q => hXI (G.sub _ q)
  have hne : acc ≠ I := fun q => hXI (q ▸ hXa)
  induction xs with
  | nil =>
    intro out s R H F T hsz hR
    refine codeAny_of_tree ?_
    show wpAny _ C.A ((compTurn (.ListComp elt gens scope pos) k (.ref I) (.ref acc) C.env).onRaise (fun x => do noteFrame x C.env; theTreesLotGoes x)) _ _ s
    refine wpAny_noted ?_
    rw [hturn]
    unfold turnTree
    refine wpAny_bind (wpAny_standAt (wpAny_bind (wpAny_mono (T.next (.inr rfl)) (fun r s₁ z => ?_) fun _ _ z => z.elim)))
    obtain ⟨k₁, rfl⟩ := z
    obtain ⟨o, fs, ho, hd⟩ := T.obj
    refine wpAny_pure (hR s₁ (H.alsoOut G hXI ho (by rw [hd]; intro _ _ q; cases q) (by rw [hd]; intro _ q; cases q) h0I k₁) ?_ (keepsW_mono (fun a q => .inr (.inr q)) k₁))
    obtain ⟨vs, n, e, i⟩ := F.keepsW k₁ hne fun a q => .inr q
    exact ⟨vs, n, e, by simpa using i.less fun a q => Or.inl q⟩
  | cons x xs ih =>
    intro out s R H F T hsz hR
    refine codeAny_of_tree ?_
    show wpAny _ C.A ((compTurn (.ListComp elt gens scope pos) k (.ref I) (.ref acc) C.env).onRaise (fun x => do noteFrame x C.env; theTreesLotGoes x)) _ _ s
    refine wpAny_noted ?_
    rw [hturn]
    unfold turnTree
    refine wpAny_bind (wpAny_standAt (wpAny_bind (wpAny_mono (T.next (.inr rfl)) (fun r s₁ z => ?_) fun _ _ z => z.elim)))
    obtain ⟨k₁, v, rfl, i₁, T₁⟩ := z
    obtain ⟨o, fs, ho, hd⟩ := T.obj
    obtain ⟨o₁, fs₁, ho₁, hd₁⟩ := T₁.obj
    have H₁ : Sat h₀ (C.also I) ρ s₁ := H.other ho (by rw [hd]; intro _ _ q; cases q) (by rw [hd]; intro _ q; cases q) (.inr rfl) h0I k₁ ⟨_, ho₁⟩
    have F₁ := F.keepsW k₁ hne fun a q => .inr q
    refine wpAny_bind (T₁.owned target v ?_)
    obtain ⟨ρ', b, ha, hρ, ht, hin, hno⟩ := hbody x (.head _)
    refine wpAny_bind (wpAny_mono (ha v s₁ H₁ i₁) (fun _ s₂ z => ?_) fun _ _ z => z.elim)
    obtain ⟨k₂, H₂⟩ := z
    have F₂ := F₁.keepsW k₂ hWa fun a q => .inl (G.sub a q)
    refine wpAny_bind (wpAny_mono (ifs_D (C := C.also I) H₂ ht) (fun ok s₃ z => ?_) fun _ _ z => z.elim)
    obtain ⟨rfl, k₃⟩ := z
    have H₃ := H₂.keeps k₃
    have F₃ : Fills (C.also I) acc out s₃.heap := by obtain ⟨vs, n, e, i⟩ := F₂; exact ⟨vs, n, keeps_get k₃ e, i.keeps k₃⟩
    have k13 : KeepsW C.W s₁ s₃ := keepsW_trans k₂ (keepsW_of k₃)
    have go : ∀ s₄, Sat h₀ (C.also I) ρ' s₄ → Fills (C.also I) acc (out ++ f x) s₄.heap → Keeps2 C.W acc s₃ s₄ → codeAny (model prog w) C.A (.compLoop (.ListComp elt gens scope pos) k (.ref I) (.ref acc) C.env) R s₄ := by
      intro s₄ H₄ F₄ k₄
      have k14 : KeepsW (fun a => C.W a ∨ a = acc) s₁ s₄ := keepsW_trans (keepsW_mono (fun a q => .inl q) k13) k₄
      refine ih (fun y hy => hbody y (.tail _ hy)) (out ++ f x) s₄ R (H₄.sub hρ) F₄ (T₁.keep fun b o hb e => keepsW_get k14 ?_ e) (by simp only [List.flatMap_cons, List.length_append] at hsz ⊢; omega) fun s' Hs Fs ks => ?_
      · rintro (q | rfl)
        · rcases hb with rfl | hb
          · exact hWI q
          · exact hb (.inl (G.sub _ q))
        · rcases hb with rfl | hb
          · exact hne rfl
          · exact hb (.inl hXa)
      · refine hR s' Hs (by simpa only [List.flatMap_cons, List.append_assoc] using Fs) ?_
        exact keepsW_trans (keepsW_mono (fun a q => .inr (.inr q)) k₁) (keepsW_trans (keepsW_mono (fun a q => q.elim .inl fun q => .inr (.inl q)) k14) ks)
    cases ok with
    | false =>
      refine wpAny_pure ⟨rfl, go s₃ H₃ ?_ (keepsW_refl _ _)⟩
      rw [hno rfl, List.append_nil]; exact F₃
    | true =>
      refine wpAny_bind (wpAny_mono (hin rfl out s₃ H₃ F₃ (by simp only [List.flatMap_cons, List.length_append] at hsz; omega)) (fun _ s₄ z => ?_) fun _ _ z => z.elim)
      exact wpAny_pure ⟨rfl, go s₄ z.1 z.2.1 z.2.2⟩
end
end Mine

set_option Elab.async false
set_option linter.unusedVariables false
namespace Mine

/-! the frame of a comprehension -/
def clos (env : Env) : List (Str × NameKind) → List (Str × Addr) → List (Str × Addr)
  | [], acc => acc
  | (n, k) :: r, acc => clos env r (if k == .free then match env.cells.lookup n with | some a => (n, a) :: acc | none => acc else acc)
theorem clos_eq (env : Env) (scope : Scope) (h : ∀ p ∈ scope.names, p.2 = .free → (env.cells.lookup p.1).isSome = true) : closureFor scope env = pure (clos env scope.names []) := by
  have key : ∀ (names : List (Str × NameKind)) (acc : List (Str × Addr)), (∀ p ∈ names, p.2 = .free → (env.cells.lookup p.1).isSome = true) →
      (forIn names acc fun (x : Str × NameKind) (r : List (Str × Addr)) => (if x.2 == .free then do let a ← cellOf env x.1; pure (ForInStep.yield ((x.1, a) :: r)) else pure (ForInStep.yield r) : Sem (ForInStep (List (Str × Addr))))) = pure (clos env names acc) := by
    intro names
    induction names with
    | nil => intro acc _; rfl
    | cons x r ih =>
      intro acc hx
      obtain ⟨n, k⟩ := x
      rw [List.forIn_cons]
      by_cases hk : k = .free
      · subst hk
        obtain ⟨a, ha⟩ := Option.isSome_iff_exists.mp (hx _ (.head _) rfl)
        simp only at ha
        have e : cellOf env n = pure a := by unfold cellOf; rw [ha]
        simp only [beq_self_eq_true, if_true, e, pure_bind]
        rw [ih _ fun p hp => hx p (.tail _ hp)]
        simp only [clos, beq_self_eq_true, if_true, ha]
      · have hb : (k == NameKind.free) = false := by simpa using hk
        simp only [hb, Bool.false_eq_true, if_false, pure_bind]
        rw [ih _ fun p hp => hx p (.tail _ hp)]
        simp only [clos, hb, Bool.false_eq_true, if_false]
  unfold closureFor
  have := key scope.names [] h
  simp only [bind_pure]
  exact this
theorem clos_lookup (env : Env) : ∀ (names : List (Str × NameKind)) (acc : List (Str × Addr)), (∀ x c, acc.lookup x = some c → env.cells.lookup x = some c) → ∀ x c, (clos env names acc).lookup x = some c → env.cells.lookup x = some c
  | [], acc, ha, x, c, h => ha x c h
  | (n, k) :: r, acc, ha, x, c, h => by
    unfold clos at h
    refine clos_lookup env r _ (fun y b hy => ?_) x c h
    split at hy
    · split at hy
      · rename_i a e
        rw [List.lookup_cons] at hy
        split at hy
        · rename_i q; cases hy; rw [beq_iff_eq.mp q]; exact e
        · exact ha y b hy
      · exact ha y b hy
    · exact ha y b hy
theorem clos_some (env : Env) (x : Str) : ∀ (names : List (Str × NameKind)) (acc : List (Str × Addr)), ((acc.lookup x).isSome = true ∨ ((x, NameKind.free) ∈ names ∧ (env.cells.lookup x).isSome = true)) → ((clos env names acc).lookup x).isSome = true
  | [], acc, h => by rcases h with h | h; exact h; exact absurd h.1 (by simp)
  | (n, k) :: r, acc, h => by
    unfold clos
    refine clos_some env x r _ ?_
    rcases h with h | ⟨h, h'⟩
    · left
      split
      · split
        · rw [List.lookup_cons]; split; rfl; exact h
        · exact h
      · exact h
    · rcases List.mem_cons.mp h with q | q
      · left
        cases q
        obtain ⟨a, ha⟩ := Option.isSome_iff_exists.mp h'
        simp only [beq_self_eq_true, if_true, ha, List.lookup_cons]
        rfl
      · exact .inr ⟨q, h'⟩

theorem pushCells_size : ∀ (names : List (Str × NameKind)) (h : Heap), h.objs.size ≤ (pushCells h names).objs.size
  | [], _ => Nat.le_refl _
  | (_, k) :: r, h => by
    unfold pushCells
    split
    · exact Nat.le_trans (by rw [Heap.size_push]; omega) (pushCells_size r _)
    · exact pushCells_size r h
theorem cellsFrom_cell {P : Str → Addr → Prop} : ∀ (names : List (Str × NameKind)) (h : Heap) (acc : List (Str × Addr)) (lo : Nat) (x : Str) (c : Addr), lo ≤ h.objs.size →
    (∀ x c, acc.lookup x = some c → P x c ∨ (h.IsCell c none ∧ lo ≤ c)) → (cellsFrom h.objs.size names acc).lookup x = some c → P x c ∨ ((pushCells h names).IsCell c none ∧ lo ≤ c)
  | [], h, acc, lo, x, c, _, ha, e => ha x c e
  | (n, k) :: r, h, acc, lo, x, c, hl, ha, e => by
    unfold cellsFrom at e
    unfold pushCells
    split at e
    · rename_i hk
      rw [if_pos hk]
      have hsz : (h.push { cls := .type "cell", data := .cell none }).objs.size = h.objs.size + 1 := Heap.size_push ..
      refine cellsFrom_cell r (h.push { cls := .type "cell", data := .cell none }) ((n, h.objs.size) :: acc) lo x c (by rw [hsz]; omega) (fun y b hy => ?_) (by rw [hsz]; exact e)
      rw [List.lookup_cons] at hy
      split at hy
      · cases hy; exact .inr ⟨⟨_, Heap.get?_push_size _ rfl, rfl⟩, hl⟩
      · exact (ha y b hy).imp id fun q => ⟨q.1.keeps fun b o e => Heap.get?_push_of_some _ e, q.2⟩
    · rename_i hk
      rw [if_neg hk]
      exact cellsFrom_cell r h acc lo x c hl ha e
theorem cellsFrom_apart : ∀ (names : List (Str × NameKind)) (n : Nat) (acc : List (Str × Addr)), (∀ x c, acc.lookup x = some c → c < n) → (∀ x y c, acc.lookup x = some c → acc.lookup y = some c → x = y) →
    ∀ x y c, (cellsFrom n names acc).lookup x = some c → (cellsFrom n names acc).lookup y = some c → x = y
  | [], n, acc, _, ha, x, y, c, e, e' => ha x y c e e'
  | (m, k) :: r, n, acc, hl, ha, x, y, c, e, e' => by
    unfold cellsFrom at e e'
    split at e
    · rename_i hk
      rw [if_pos hk] at e'
      refine cellsFrom_apart r (n + 1) ((m, n) :: acc) (fun z d hz => ?_) (fun z u d hz hu => ?_) x y c e e'
      · rw [List.lookup_cons] at hz
        split at hz
        · cases hz; exact Nat.lt_succ_self _
        · exact Nat.lt_succ_of_lt (hl z d hz)
      · rw [List.lookup_cons] at hz hu
        split at hz <;> split at hu
        · rename_i _ p _ q; rw [beq_iff_eq.mp p, beq_iff_eq.mp q]
        · cases hz; exact absurd (hl u _ hu) (Nat.lt_irrefl _)
        · cases hu; exact absurd (hl z _ hz) (Nat.lt_irrefl _)
        · exact ha z u d hz hu
    · rename_i hk
      rw [if_neg hk] at e'
      exact cellsFrom_apart r n acc hl ha x y c e e'
theorem cellsFrom_skip (x : Str) : ∀ (names : List (Str × NameKind)) (n : Nat) (acc : List (Str × Addr)), (∀ p ∈ names, p.1 = x → p.2 ≠ .cell) → (cellsFrom n names acc).lookup x = acc.lookup x
  | [], n, acc, _ => rfl
  | (m, k) :: r, n, acc, h => by
    unfold cellsFrom
    split
    · rename_i hk
      rw [cellsFrom_skip x r _ _ fun p hp => h p (.tail _ hp), List.lookup_cons]
      split
      · rename_i q
        exact absurd (beq_iff_eq.mp hk) (h (m, k) (.head _) (beq_iff_eq.mp q).symm)
      · rfl
    · exact cellsFrom_skip x r n acc fun p hp => h p (.tail _ hp)
theorem cellsFrom_has (x : Str) : ∀ (names : List (Str × NameKind)) (n : Nat) (acc : List (Str × Addr)), ((x, NameKind.cell) ∈ names ∨ (acc.lookup x).isSome = true) → ((cellsFrom n names acc).lookup x).isSome = true
  | [], n, acc, h => by rcases h with h | h; exact absurd h (by simp); exact h
  | (m, k) :: r, n, acc, h => by
    unfold cellsFrom
    split
    · rename_i hk
      refine cellsFrom_has x r _ _ ?_
      rcases h with h | h
      · rcases List.mem_cons.mp h with q | q
        · cases q; right; simp
        · exact .inl q
      · right; rw [List.lookup_cons]; split; rfl; exact h
    · rename_i hk
      refine cellsFrom_has x r _ _ ?_
      rcases h with h | h
      · rcases List.mem_cons.mp h with q | q
        · cases q; simp at hk
        · exact .inl q
      · exact .inr h

/-- the variables that a comprehension sees -/
def freeIn (scope : Scope) (x : Str) : Bool := scope.names.all (fun q => !(q.1 == x) || q.2 == .free) && scope.names.any (fun q => q.1 == x)
def capt (scope : Scope) (env : Env) (ρ : Vs) : Vs := ρ.filter fun p => freeIn scope p.1 && (env.kindOf p.1 == some .cell || env.kindOf p.1 == some .free)
theorem capt_mem {scope : Scope} {env : Env} {ρ : Vs} {x : Str} {d : D} (hf : freeIn scope x = true) (hk : (env.kindOf x == some .cell || env.kindOf x == some .free) = true) (m : (x, d) ∈ ρ) : (x, d) ∈ capt scope env ρ :=
  List.mem_filter.mpr ⟨m, by simp only [hf, hk, Bool.and_self]⟩
theorem freeIn_mem {scope : Scope} {x : Str} (h : freeIn scope x = true) : (x, NameKind.free) ∈ scope.names ∧ ∀ p ∈ scope.names, p.1 = x → p.2 = .free := by
  unfold freeIn at h
  simp only [Bool.and_eq_true, List.all_eq_true, List.any_eq_true, Bool.or_eq_true, Bool.not_eq_true', beq_iff_eq, beq_eq_false_iff_ne, ne_eq] at h
  obtain ⟨h1, ⟨y, k⟩, hy, rfl⟩ := h
  refine ⟨?_, fun p hp e => (h1 p hp).resolve_left fun q => q e⟩
  have := (h1 _ hy).resolve_left fun q => q rfl
  simp only at this
  rw [← this]; exact hy
theorem lookup_relabel_free {env : Env} : ∀ {names : List (Str × NameKind)} {x : Str}, (x, NameKind.free) ∈ names → (∀ p ∈ names, p.1 = x → p.2 = NameKind.free) →
    (names.map fun (n, k) => if (k == NameKind.free && env.scope.kind == .function && env.kindOf n == some .cell) then (n, NameKind.cell) else (n, k)).lookup x = some .cell ∨
    (names.map fun (n, k) => if (k == NameKind.free && env.scope.kind == .function && env.kindOf n == some .cell) then (n, NameKind.cell) else (n, k)).lookup x = some .free
  | [], _, h, _ => by simp at h
  | (n, k) :: r, x, h, hu => by
    show List.lookup x ((if (k == NameKind.free && env.scope.kind == .function && env.kindOf n == some .cell) = true then (n, NameKind.cell) else (n, k)) :: _) = _ ∨ List.lookup x ((if (k == NameKind.free && env.scope.kind == .function && env.kindOf n == some .cell) = true then (n, NameKind.cell) else (n, k)) :: _) = _
    by_cases hx : x = n
    · subst hx
      have hk : k = .free := hu (x, k) (.head _) rfl
      subst hk
      split
      · left; simp [List.lookup_cons]
      · right; simp [List.lookup_cons]
    · have hb : (x == n) = false := by simpa using hx
      have ih := lookup_relabel_free (env := env) (names := r) (x := x) ((List.mem_cons.mp h).resolve_left fun q => hx (by cases q; rfl)) fun p hp => hu p (.tail _ hp)
      split <;> simp only [List.lookup_cons, hb] <;> exact ih
theorem lookup_relabel_cell {env : Env} : ∀ {names : List (Str × NameKind)} {x : Str}, names.lookup x = some .cell →
    (names.map fun (n, k) => if (k == NameKind.free && env.scope.kind == .function && env.kindOf n == some .cell) then (n, NameKind.cell) else (n, k)).lookup x = some .cell
  | [], _, h => by simp at h
  | (n, k) :: r, x, h => by
    have ih := @lookup_relabel_cell env r x
    show List.lookup x ((if (k == NameKind.free && env.scope.kind == .function && env.kindOf n == some .cell) = true then (n, NameKind.cell) else (n, k)) :: _) = _
    cases hx : x == n with
    | true =>
      simp only [List.lookup_cons, hx] at h
      cases h
      simp [List.lookup_cons, hx]
    | false =>
      simp only [List.lookup_cons, hx] at h
      split <;> simp only [List.lookup_cons, hx] <;> exact ih h
/-- a name that the comprehension's own table calls a cell or free -/
theorem relabel_inv {env : Env} : ∀ {names : List (Str × NameKind)} {x : Str},
    ((names.map fun (n, k) => if (k == NameKind.free && env.scope.kind == .function && env.kindOf n == some .cell) then (n, NameKind.cell) else (n, k)).lookup x = some .cell ∨
    (names.map fun (n, k) => if (k == NameKind.free && env.scope.kind == .function && env.kindOf n == some .cell) then (n, NameKind.cell) else (n, k)).lookup x = some .free) → (x, NameKind.cell) ∈ names ∨ (x, NameKind.free) ∈ names
  | [], _, h => by simp at h
  | (n, k) :: r, x, h => by
    have ih := @relabel_inv env r x
    change (List.lookup x ((if (k == NameKind.free && env.scope.kind == .function && env.kindOf n == some .cell) = true then (n, NameKind.cell) else (n, k)) :: _) = _ ∨ List.lookup x ((if (k == NameKind.free && env.scope.kind == .function && env.kindOf n == some .cell) = true then (n, NameKind.cell) else (n, k)) :: _) = _) at h
    by_cases hx : x = n
    · subst hx
      split at h
      · rename_i hc
        simp only [Bool.and_eq_true, beq_iff_eq] at hc
        rw [hc.1.1]; exact .inr (.head _)
      · simp only [List.lookup_cons, beq_self_eq_true, Option.some.injEq] at h
        rcases h with h | h <;> rw [h]
        · exact .inl (.head _)
        · exact .inr (.head _)
    · have hb : (x == n) = false := by simpa using hx
      have : (x, NameKind.cell) ∈ r ∨ (x, NameKind.free) ∈ r := by
        refine ih ?_
        split at h <;> simpa only [List.lookup_cons, hb] using h
      exact this.imp (List.Mem.tail _) (List.Mem.tail _)
end Mine

set_option Elab.async false
set_option linter.unusedVariables false
namespace Mine

theorem cellsFrom_new (x : Str) : ∀ (names : List (Str × NameKind)) (n lo : Nat) (acc : List (Str × Addr)), lo ≤ n → ((x, NameKind.cell) ∈ names ∨ ∃ c, acc.lookup x = some c ∧ @LE.le Nat _ lo c) →
    ∃ c, (cellsFrom n names acc).lookup x = some c ∧ @LE.le Nat _ lo c
  | [], n, lo, acc, _, h => by rcases h with h | h; exact absurd h (by simp); exact h
  | (m, k) :: r, n, lo, acc, hl, h => by
    unfold cellsFrom
    split
    · rename_i hk
      refine cellsFrom_new x r (n + 1) lo _ (by omega) ?_
      rcases h with h | ⟨c, h, h'⟩
      · rcases List.mem_cons.mp h with q | q
        · cases q; exact .inr ⟨n, by simp, hl⟩
        · exact .inl q
      · right
        rw [List.lookup_cons]
        split
        · exact ⟨n, rfl, hl⟩
        · exact ⟨c, h, h'⟩
    · rename_i hk
      refine cellsFrom_new x r n lo _ hl ?_
      rcases h with h | h
      · rcases List.mem_cons.mp h with q | q
        · cases q; simp at hk
        · exact .inl q
      · exact .inr h
theorem lookup_mem {α : Type} {x : Str} {k : α} : ∀ {l : List (Str × α)}, l.lookup x = some k → (x, k) ∈ l := fun h => mem_of_lookup h

section
variable {prog : Program} {w : World} {h₀ : Heap} {C : Cx} {ρ : Vs}

/-- something that is reserved, no frame and no cell of this context, is written -/
theorem Sat.write {b : Addr} {s s' : Shared} (H : Sat h₀ C ρ s) (hl : C.env.locals ≠ b) (hc : ∀ x c, C.env.cells.lookup x = some c → c ≠ b) (hX : C.X b) (h0 : h₀.get? b = none)
    (k : KeepsW (· = b) s s') (hb : ∃ o', s'.heap.get? b = some o') : Sat h₀ C ρ s' := by
  obtain ⟨m, hm⟩ := H.loc
  have gs : s'.gens = s.gens := by obtain ⟨h', t', rfl, _⟩ := k; rfl
  refine ⟨H.good, gs.trans H.gens, Nat.le_trans H.toks (keepsW_le k), fun a o' e' => keepsW_get k (fun q => ?_) (H.top a o' e'), fun a xa => ?_, ⟨m, Ns.keepsW hm k hl⟩, fun x c q => ?_, fun p hp => ?_⟩
  · subst q; rw [h0] at e'; cases e'
  · by_cases q : a = b
    · subst q; exact hb
    · obtain ⟨o', e'⟩ := H.alloc a xa; exact ⟨o', keepsW_get k q e'⟩
  · obtain ⟨v, hv⟩ := H.cells x c q
    exact ⟨v, IsCell.keepsW hv k (hc x c q)⟩
  · obtain ⟨v, i, hv⟩ := H.vars p hp
    refine ⟨v, i.keepsW k fun a q => by subst q; exact hX, ?_⟩
    rcases hv with ⟨a, m', b', c'⟩ | ⟨a, c', b', d'⟩
    · exact .inl ⟨a, m', Ns.keepsW b' k hl, c'⟩
    · exact .inr ⟨a, c', b', IsCell.keepsW d' k (hc _ _ b')⟩

/-- a reserved object is written, and is reserved no more -/
theorem Sat.drop {b : Addr} {s s' : Shared} (H : Sat h₀ (C.also b) ρ s) (G : Good h₀ C) (nX : ¬ C.X b) (hl : C.env.locals ≠ b) (hc : ∀ x c, C.env.cells.lookup x = some c → c ≠ b) (h0 : h₀.get? b = none)
    (k : KeepsW (· = b) s s') : Sat h₀ C ρ s' := by
  obtain ⟨m, hm⟩ := H.loc
  have gs : s'.gens = s.gens := by obtain ⟨h', t', rfl, _⟩ := k; rfl
  refine ⟨G, gs.trans H.gens, Nat.le_trans H.toks (keepsW_le k), fun a o' e' => keepsW_get k (fun q => ?_) (H.top a o' e'), fun a xa => ?_, ⟨m, Ns.keepsW hm k hl⟩, fun x c q => ?_, fun p hp => ?_⟩
  · subst q; rw [h0] at e'; cases e'
  · obtain ⟨o', e'⟩ := H.alloc a (.inl xa); exact ⟨o', keepsW_get k (fun q => nX (q ▸ xa)) e'⟩
  · obtain ⟨v, hv⟩ := H.cells x c q
    exact ⟨v, IsCell.keepsW hv k (hc x c q)⟩
  · obtain ⟨v, i, hv⟩ := H.vars p hp
    refine ⟨v, (i.keepsW k fun a q => .inr q).less fun a q => .inl q, ?_⟩
    rcases hv with ⟨a, m', b', c'⟩ | ⟨a, c', b', d'⟩
    · exact .inl ⟨a, m', Ns.keepsW b' k hl, c'⟩
    · exact .inr ⟨a, c', b', IsCell.keepsW d' k (hc _ _ b')⟩

structure CompIn (h₀ : Heap) (C : Cx) (scope : Scope) (Cb : Cx) (I acc : Addr) : Prop where
  A : Cb.A = C.A
  good : Good h₀ Cb
  scp : Cb.env.scope = relabel scope C.env
  xacc : Cb.X acc
  wacc : ¬ Cb.W acc
  acc0 : h₀.get? acc = none
  xI : ¬ Cb.X I
  I0 : h₀.get? I = none
  sto : ∀ x, (scope.names.lookup x = some .local ∨ scope.names.lookup x = some .cell) → Stores Cb x

theorem Sat.old0 {s : Shared} (H : Sat h₀ C ρ s) {a : Addr} (l : s.heap.objs.size ≤ a) : h₀.get? a = none := by
  cases e : h₀.get? a with
  | none => rfl
  | some o => exact absurd (Heap.lt_size (H.top a o e)) (Nat.not_lt.mpr l)
theorem Sat.xold {s : Shared} (H : Sat h₀ C ρ s) {a : Addr} (l : s.heap.objs.size ≤ a) : ¬ C.X a := fun q => by
  obtain ⟨o, e⟩ := H.alloc _ q
  exact absurd (Heap.lt_size e) (Nat.not_lt.mpr l)

theorem newCompEnv {M : Model} {A : Around} {E : Value → Shared → Prop} {s : Shared} {scope : Scope} {globals : Addr} {cl : List (Str × Addr)} {qual : Str} {env : Env} {Q : Env → Shared → Prop}
    (h : Q { scope, locals := s.heap.objs.size, globals, cells := cellsFrom (s.heap.objs.size + 1) scope.names cl, qual, func := none, code := env.code, frame := env.frame, builtins := env.builtins }
      { s with heap := pushCells (s.heap.push { cls := .type "dict", data := .dict #[] }) scope.names }) :
    wpAny M A (newFunctionEnv scope globals cl [] qual none .none (some env)) Q E s := by
  simp only [newFunctionEnv, Option.isSome_some, if_true]
  refine wpAny_bind (wpAny_alloc ?_)
  refine wpAny_bind (wpAny_layCells _ (fun name kind cells => by cases hkc : kind == NameKind.cell <;> simp [hkc]) _ _ _ _ ?_)
  rw [show ({ s with heap := s.heap.push { cls := .type "dict", data := .dict #[] } } : Shared).heap.objs.size = s.heap.objs.size + 1 from Heap.size_push ..]
  exact wpAny_bind (wpAny_pure (wpAny_pure h))

set_option maxHeartbeats 1000000 in
theorem comp_core {elt target iter : Expr} {ifs : List Expr} {gs : List Comprehension} {scope : Scope} {pos p0 : Pos} {src : D} {ds out : List D} {use : Option (Value → Sem Unit)}
    (hsrc : EvD prog w h₀ C ρ iter src) (hit : IterD src ds) (hkind : scope.kind = .function) (hnames : ∀ x ∈ scope.names, x.2 = .local → scope.names.lookup x.1 = some .local)
    (hfree : ∀ p ∈ scope.names, p.2 = .free → (C.env.kindOf p.1 = some .cell ∨ C.env.kindOf p.1 = some .free)) (hfold : ∀ x, foldedSetIterable iter C.env x = pure x)
    (hloop : ∀ Cb I acc s, CompIn h₀ C scope Cb I acc → Sat h₀ (Cb.also I) (capt scope C.env ρ) s → Fills (Cb.also I) acc [] s.heap → ItAt prog w C.A (Cb.also I).X I ds s.heap → ∀ R : Result → Shared → Prop,
      (∀ s', Sat h₀ Cb (capt scope C.env ρ) s' → Fills Cb acc out s'.heap → KeepsW (fun a => Cb.W a ∨ a = acc ∨ a = I) s s' → R (.ok .next) s') →
      codeAny (model prog w) C.A (.compLoop (.ListComp elt (⟨target, iter, ifs, 0⟩ :: gs) scope pos) 0 (.ref I) (.ref acc) Cb.env) R s)
    {s : Shared} (H : Sat h₀ C ρ s) {Q : Value → Shared → Prop} {E : Value → Shared → Prop}
    (hQ : match use with
      | none => ∀ v s', Keeps s s' → Is C.X s'.heap v (.list out) → Q v s'
      | some u => ∀ v s' L, Keeps s s' → Sat h₀ (C.also L) ρ s' → Is (C.also L).X s'.heap v (.list out) → ¬ C.W L → (∃ m, s'.heap.Ns L m) → C.env.locals ≠ L → (∀ x c, C.env.cells.lookup x = some c → c ≠ L) → h₀.get? L = Option.none → ¬ C.X L → s.heap.get? L = Option.none →
          wpAny (model prog w) C.A (u v) (fun _ s'' => KeepsW C.W s' s'' ∧ ∀ h', Heap.SameBut L s''.heap h' → Q .none { s'' with heap := h' }) E s') :
    wpAny (model prog w) C.A (comprehension (.ListComp elt (⟨target, iter, ifs, 0⟩ :: gs) scope pos) scope C.env p0 (newList []) false (eval iter C.env) use) Q E s := by
  have hclos := clos_eq C.env scope fun p hp hk => H.good.cl _ (hfree p hp hk)
  refine wpAny_comprehension_free (use := use) rfl hfold hclos hkind hnames (hsrc.then H fun v s₁ k₁ H₁ i₁ => ?_)
  refine wpAny_mono (iter_D (prog := prog) (w := w) H.good.hh (H₁.fresh) hit i₁) (fun it s₂ z => ?_) fun _ _ z => z.elim
  obtain ⟨rfl, ⟨oI, rfl⟩, T⟩ := z
  generalize hI : s₁.heap.objs.size = I at T ⊢
  have hI2 : ({ s₁ with heap := s₁.heap.push oI } : Shared).heap.objs.size = I + 1 := by rw [← hI]; exact Heap.size_push ..
  refine wpAny_newObj_type ?_
  generalize hacc : ({ s₁ with heap := s₁.heap.push oI } : Shared).heap.objs.size = acc at *
  generalize hs₃ : ({ s₁ with heap := (s₁.heap.push oI).push { cls := .type "list", dict := none, data := .seq ([] : List Value).toArray } } : Shared) = s₃
  have hsz₃ : s₃.heap.objs.size = acc + 1 := by rw [← hs₃, ← hacc]; exact Heap.size_push ..
  refine newCompEnv ?_
  generalize hL : s₃.heap.objs.size = L at hsz₃ ⊢
  generalize hs₄ : ({ s₃ with heap := pushCells (s₃.heap.push { cls := .type "dict", data := .dict #[] }) scope.names } : Shared) = s₄
  generalize hcells : cellsFrom (L + 1) scope.names (clos C.env scope.names []) = cells
  -- what is kept
  have kI : Keeps s₁ { s₁ with heap := s₁.heap.push oI } := keeps_push s₁ oI
  have k13 : Keeps s₁ s₃ := by rw [← hs₃]; exact keeps_trans kI (keeps_push ({ s₁ with heap := s₁.heap.push oI } : Shared) _)
  have kpush : ∀ b o, (s₃.heap.push { cls := .type "dict", data := .dict #[] }).get? b = some o → s₄.heap.get? b = some o := fun b o e => by rw [← hs₄]; exact pushCells_keeps _ _ b o e
  have k34 : Keeps s₃ s₄ := by rw [← hs₄]; exact ⟨_, _, rfl, Nat.le_refl _, fun b o e => pushCells_keeps _ _ b o (Heap.get?_push_of_some _ e)⟩
  have k14 := keeps_trans k13 k34
  have k2 : Keeps ({ s₁ with heap := s₁.heap.push oI } : Shared) s₃ := by rw [← hs₃]; exact keeps_push ({ s₁ with heap := s₁.heap.push oI } : Shared) _
  have k24 := keeps_trans k2 k34
  have eacc : s₃.heap.get? acc = some (listObj [] 0) := by rw [← hs₃, ← hacc]; exact Heap.get?_push_size _ rfl
  have eacc4 := keeps_get k34 eacc
  have nsL : s₄.heap.Ns L (fun _ => none) := by
    rw [← hL]
    have := Heap.Ns.new s₃.heap (.type "dict")
    exact this.keeps kpush
  obtain ⟨oI', fsI, eI, hdI⟩ := (T C.A (fun _ => False) H.good.hh fun _ q => q.elim).obj
  have eI4 := keeps_get k24 eI
  have lt1 : I < acc := by rw [hI2]; exact Nat.lt_succ_self _
  have lt2 : acc < L := by rw [hsz₃]; exact Nat.lt_succ_self _
  have old : ∀ b o, s₁.heap.get? b = some o → b < I := fun b o e => by rw [← hI]; exact Heap.lt_size e
  have hcl : ∀ x c, (clos C.env scope.names []).lookup x = some c → C.env.cells.lookup x = some c := clos_lookup C.env scope.names [] fun _ _ q => by cases q
  have hcell : ∀ x c, cells.lookup x = some c → C.env.cells.lookup x = some c ∨ (s₄.heap.IsCell c none ∧ @LE.le Nat _ (L + 1) c) := fun x c e => by
    rw [← hcells] at e
    have := cellsFrom_cell (P := fun x c => C.env.cells.lookup x = some c) scope.names (s₃.heap.push { cls := .type "dict", data := .dict #[] }) (clos C.env scope.names []) (L + 1) x c (by rw [Heap.size_push, hL]; exact Nat.le_refl _) (fun x c q => .inl (hcl x c q)) (by rw [Heap.size_push, hL]; exact e)
    rw [← hs₄]; exact this
  let W' : Addr → Prop := fun a => a = L ∨ (@LE.le Nat _ (L + 1) a ∧ ∃ x, cells.lookup x = some a)
  let cenv : Env := { scope := relabel scope C.env, locals := L, globals := C.env.globals, cells := cells, qual := C.env.qual, func := none, code := C.env.code, frame := C.env.frame, builtins := C.env.builtins }
  let Cb : Cx := ⟨C.A, cenv, fun a => C.X a ∨ a = acc ∨ W' a, W'⟩
  have wge : ∀ a, W' a → @LE.le Nat _ L a := fun a q => by
    rcases q with rfl | ⟨q, _⟩
    · exact Nat.le_refl _
    · exact Nat.le_of_succ_le q
  have old1 : ∀ {a : Addr}, @LE.le Nat _ I a → s₁.heap.get? a = none := fun {a} l => get_none_of_le (by rw [hI]; exact l)
  have new0 : ∀ {a : Addr}, @LE.le Nat _ I a → h₀.get? a = none := fun {a} l => H₁.old0 (by rw [hI]; exact l)
  have newX : ∀ {a : Addr}, @LE.le Nat _ I a → ¬ C.X a := fun {a} l => H₁.xold (by rw [hI]; exact l)
  have cIlt : ∀ x c, C.env.cells.lookup x = some c → @LT.lt Nat _ c I := fun x c e => by
    obtain ⟨v, hv⟩ := H₁.cells x c e
    rw [← hI]; exact hv.lt
  have Gb : Good h₀ Cb := by
    refine ⟨?_, H.good.glob, H.good.bi, H.good.hh, fun a q => .inr (.inr q), fun a q => new0 (Nat.le_trans (Nat.le_of_lt (Nat.lt_trans lt1 lt2)) (wge a q)), .inl rfl, fun x y c e e' => ?_, fun x hx => ?_⟩
    · show (relabel scope C.env).kind = _
      exact hkind
    · refine cellsFrom_apart scope.names (L + 1) (clos C.env scope.names []) (fun x c q => ?_) (fun x y c q q' => H.good.apart x y c (hcl x c q) (hcl y c q')) x y c (by rw [hcells]; exact e) (by rw [hcells]; exact e')
      exact Nat.lt_succ_of_lt (Nat.lt_trans (cIlt x c (hcl x c q)) (Nat.lt_trans lt1 lt2))
    · show (cells.lookup x).isSome = true
      rw [← hcells]
      refine cellsFrom_has x scope.names _ _ ?_
      rcases relabel_inv hx with q | q
      · exact .inl q
      · exact .inr (clos_some C.env x scope.names [] (.inr ⟨q, H.good.cl _ (hfree _ q rfl)⟩))
  have CI : CompIn h₀ C scope Cb I acc := by
    refine ⟨rfl, Gb, rfl, .inr (.inl rfl), fun q => absurd (wge _ q) (Nat.not_le.mpr lt2), new0 (Nat.le_of_lt lt1), ?_, new0 (Nat.le_refl _), fun x hx => ?_⟩
    · rintro (q | q | q)
      · exact newX (Nat.le_refl _) q
      · exact Nat.ne_of_lt lt1 q
      · exact absurd (wge _ q) (Nat.not_le.mpr (Nat.lt_trans lt1 lt2))
    · rcases hx with hx | hx
      · exact .inl (lookup_relabel_local hx)
      · obtain ⟨c, e, l⟩ := cellsFrom_new x scope.names (L + 1) (L + 1) (clos C.env scope.names []) (Nat.le_refl _) (.inl (lookup_mem hx))
        rw [hcells] at e
        exact .inr ⟨lookup_relabel_cell hx, c, e, .inr ⟨l, x, e⟩⟩
  have up : ∀ {v : Value} {d : D}, Is C.X s₁.heap v d → Is (Cb.also I).X s₄.heap v d := fun {v d} q => q.mono fun b o nb e => ⟨fun z => by
    have lb := old b o e
    rcases z with (z | z | z) | z
    · exact nb z
    · exact absurd (z ▸ lb) (Nat.not_lt.mpr (Nat.le_of_lt lt1))
    · exact absurd (wge _ z) (Nat.not_le.mpr (Nat.lt_trans lb (Nat.lt_trans lt1 lt2)))
    · exact absurd (z ▸ lb) (Nat.lt_irrefl _), keeps_get k14 e⟩
  have g4 : s₄.gens = s₁.gens := by obtain ⟨_, _, rfl, _⟩ := k14; rfl
  have S4 : Sat h₀ (Cb.also I) (capt scope C.env ρ) s₄ := by
    refine ⟨Gb.also I, g4.trans H₁.gens, Nat.le_trans H₁.toks (keeps_le k14), fun b o e => keeps_get k14 (H₁.top b o e), fun a xa => ?_, ⟨_, nsL⟩, fun x c e => ?_, fun p hp => ?_⟩
    · rcases xa with (xa | rfl | xa) | rfl
      · obtain ⟨o, e⟩ := H₁.alloc a xa; exact ⟨o, keeps_get k14 e⟩
      · exact ⟨_, eacc4⟩
      · rcases xa with rfl | ⟨l, x, e⟩
        · obtain ⟨o, _, _, e, _⟩ := nsL; exact ⟨o, e⟩
        · rcases hcell x a e with q | q
          · obtain ⟨v, o, e, _⟩ := H₁.cells x a q; exact ⟨o, keeps_get k14 e⟩
          · obtain ⟨⟨o, e, _⟩, _⟩ := q; exact ⟨o, e⟩
      · exact ⟨_, eI4⟩
    · rcases hcell x c e with q | q
      · obtain ⟨v, hv⟩ := H₁.cells x c q; exact ⟨v, hv.keeps fun b o e => keeps_get k14 e⟩
      · exact ⟨_, q.1⟩
    · obtain ⟨hp, hq⟩ := List.mem_filter.mp hp
      simp only [Bool.and_eq_true, Bool.or_eq_true, beq_iff_eq] at hq
      obtain ⟨hf, hk⟩ := hq
      obtain ⟨f1, f2⟩ := freeIn_mem hf
      obtain ⟨v, i, hv⟩ := H₁.vars p hp
      refine ⟨v, up i, .inr ?_⟩
      rcases hv with ⟨a, m', b', c'⟩ | ⟨a, c', b', d'⟩
      · rw [a] at hk; rcases hk with hk | hk <;> cases hk
      · refine ⟨lookup_relabel_free f1 f2, c', ?_, d'.keeps fun b o e => keeps_get k14 e⟩
        show cells.lookup p.1 = some c'
        rw [← hcells, cellsFrom_skip p.1 scope.names _ _ fun q hq e => by rw [f2 q hq e]; intro z; cases z]
        obtain ⟨a', ha'⟩ := Option.isSome_iff_exists.mp (clos_some C.env p.1 scope.names [] (.inr ⟨f1, by rw [b']; rfl⟩))
        rw [ha', ← b', ← hcl _ _ ha']
  have F4 : Fills (Cb.also I) acc [] s₄.heap := ⟨[], 0, eacc4, .nil⟩
  have T4 : ItAt prog w C.A (Cb.also I).X I ds s₄.heap := by
    refine (T C.A (Cb.also I).X H.good.hh fun a z => ?_).keep fun b o _ e => keeps_get k24 e
    rcases z with (z | z | z) | z
    · exact .inl z
    · exact .inr (by rw [z]; exact Nat.le_of_lt lt1)
    · exact .inr (Nat.le_trans (Nat.le_of_lt (Nat.lt_trans lt1 lt2)) (wge a z))
    · exact .inr (by rw [z]; exact Nat.le_refl _)
  have loop := hloop Cb I acc s₄ CI S4 F4 T4
  have fin : codeAny (model prog w) C.A (.compLoop (.ListComp elt (⟨target, iter, ifs, 0⟩ :: gs) scope pos) 0 (.ref I) (.ref acc) cenv) (compPost (model prog w) C.A E use Q (.ref acc) L) s₄ := by
    refine loop _ fun s' S' F' k' => ?_
    have kall : Keeps s₁ s' := by
      obtain ⟨h', t', rfl, l, kk⟩ := keepsW_trans (keepsW_of (W := fun a => Cb.W a ∨ a = acc ∨ a = I) k14) k'
      refine ⟨h', t', rfl, l, fun b o e => kk b o ?_ e⟩
      have lb := old b o e
      rintro (z | z | z)
      · exact absurd (wge _ z) (Nat.not_le.mpr (Nat.lt_trans lb (Nat.lt_trans lt1 lt2)))
      · exact absurd (z ▸ lb) (Nat.not_lt.mpr (Nat.le_of_lt lt1))
      · exact absurd (z ▸ lb) (Nat.lt_irrefl _)
    obtain ⟨vs, n, e, i⟩ := F'
    obtain ⟨mL, nL⟩ := S'.loc
    have Lgt : @LE.le Nat _ I L := Nat.le_of_lt (Nat.lt_trans lt1 lt2)
    have isR : ∀ h', Heap.SameBut L s'.heap h' → Is C.X h' (.ref acc) (.list out) := fun h' hs => by
      refine .list (newX (Nat.le_of_lt lt1)) ((hs.2 acc (Nat.ne_of_lt lt2)).trans e) (i.mono fun b o nb e => ⟨fun q => nb (.inl q), (hs.2 b fun q => nb (.inr (.inr (.inl q)))).trans e⟩)
    cases use with
    | none =>
      refine ⟨mL, nL, fun h' hs => hQ _ _ ?_ (isR h' hs)⟩
      refine keeps_trans k₁ ?_
      obtain ⟨h'', t'', rfl, l, kk⟩ := kall
      exact ⟨h', t'', rfl, l, fun b o e => (hs.2 b fun q => absurd (q ▸ old b o e) (Nat.not_lt.mpr Lgt)).trans (kk b o e)⟩
    | some u =>
      have lne : C.env.locals ≠ L := fun q => by
        obtain ⟨m, hm⟩ := H₁.loc
        have := hm.lt
        rw [hI] at this
        exact absurd (q ▸ this) (Nat.not_lt.mpr Lgt)
      have SL : Sat h₀ (C.also L) ρ s' := by
        have HS := H₁.keeps kall
        refine ⟨H.good.also L, HS.gens, HS.toks, HS.top, fun a xa => ?_, HS.loc, HS.cells, fun p hp => ?_⟩
        · rcases xa with xa | rfl
          · exact HS.alloc a xa
          · obtain ⟨o, _, _, e, _⟩ := nL; exact ⟨o, e⟩
        · obtain ⟨v, i, hv⟩ := H₁.vars p hp
          refine ⟨v, i.mono fun b o nb e => ⟨fun z => z.elim nb fun z => absurd (z ▸ old b o e) (Nat.not_lt.mpr Lgt), keeps_get kall e⟩, hv.keeps fun b o e => keeps_get kall e⟩
      have iL : Is (C.also L).X s'.heap (.ref acc) (.list out) := .list (fun z => z.elim (newX (Nat.le_of_lt lt1)) (Nat.ne_of_lt lt2)) e (i.mono fun b o nb e => ⟨fun q => q.elim (fun q => nb (.inl q)) fun q => nb (.inr (.inr (.inl q))), e⟩)
      have wL : ¬ C.W L := fun q => newX Lgt (H.good.sub _ q)
      refine wpAny_mono (hQ (.ref acc) s' L (keeps_trans k₁ kall) SL iL wL ⟨mL, nL⟩ lne (fun x c e q => absurd (q ▸ cIlt x c e) (Nat.not_lt.mpr Lgt)) (new0 Lgt) (newX Lgt) (by
        cases e : s.heap.get? L with
        | none => rfl
        | some o => have := keeps_get k₁ e; rw [old1 Lgt] at this; cases this)) (fun _ s'' z => ?_) fun _ _ z => z
      exact ⟨mL, Ns.keepsW nL z.1 wL, z.2⟩
  refine codeAny_compStart_list fin (T4.self ?_)
  exact fin
end
end Mine

set_option Elab.async false
set_option linter.unusedVariables false
set_option linter.unusedSimpArgs false
namespace Mine

def relab (scope sc : Scope) : Scope :=
  { scope with names := scope.names.map fun (n, k) => if (k == .free && sc.kind == .function && sc.names.lookup n == some .cell) then (n, .cell) else (n, k) }
def cap (scope sc : Scope) (ρ : Vs) : Vs := ρ.filter fun p => freeIn scope p.1 && (sc.names.lookup p.1 == some .cell || sc.names.lookup p.1 == some .free)
theorem cap_mem {scope sc : Scope} {ρ : Vs} {x : Str} {d : D} (hf : (freeIn scope x && (sc.names.lookup x == some .cell || sc.names.lookup x == some .free)) = true) (m : (x, d) ∈ ρ) : (x, d) ∈ cap scope sc ρ :=
  List.mem_filter.mpr ⟨m, hf⟩
def ownIn (scope : Scope) (y : Str) : Bool := scope.names.lookup y == some .local || scope.names.lookup y == some .cell
theorem cap_put {scope sc : Scope} {ρ : Vs} {y : Str} {d : D} (hy : ownIn scope y = true) : ∀ q ∈ cap scope sc ρ, q ∈ put (cap scope sc ρ) y d := by
  intro q hq
  obtain ⟨x, e⟩ := q
  refine put_tail ?_ hq
  obtain ⟨_, h⟩ := List.mem_filter.mp hq
  simp only [Bool.and_eq_true] at h
  obtain ⟨h1, h2⟩ := freeIn_mem h.1
  cases hb : (x == y) with
  | false => rfl
  | true =>
    have := beq_iff_eq.mp hb
    subst this
    unfold ownIn at hy
    simp only [Bool.or_eq_true, beq_iff_eq] at hy
    rcases hy with hy | hy
    · have := h2 _ (lookup_mem hy) rfl; cases this
    · have := h2 _ (lookup_mem hy) rfl; cases this
def scopeOk (scope sc : Scope) : Bool := scope.kind == .function && scope.names.all (fun x => x.2 != .local || scope.names.lookup x.1 == some .local) &&
  scope.names.all (fun p => p.2 != .free || (sc.names.lookup p.1 == some .cell || sc.names.lookup p.1 == some .free))

section
variable {prog : Program} {w : World} {h₀ : Heap} {C : Cx} {ρ : Vs}

structure InComp (C : Cx) (scope sc : Scope) (Cc : Cx) : Prop where
  A : Cc.A = C.A
  scp : Cc.env.scope = relab scope sc
  sto : ∀ x, ownIn scope x = true → Stores Cc x

theorem CompIn.inComp {scope sc : Scope} {Cb : Cx} {I acc : Addr} (hsc : C.env.scope = sc) (h : CompIn h₀ C scope Cb I acc) : InComp C scope sc (Cb.also I) := by
  refine ⟨h.A, ?_, fun x hx => ?_⟩
  · subst hsc; exact h.scp
  · unfold ownIn at hx
    simp only [Bool.or_eq_true, beq_iff_eq] at hx
    exact h.sto x hx
theorem capt_eq {scope sc : Scope} (hsc : C.env.scope = sc) (ρ : Vs) : capt scope C.env ρ = cap scope sc ρ := by subst hsc; rfl

theorem scope_parts {scope sc : Scope} (hsc : C.env.scope = sc) (h : scopeOk scope sc = true) : scope.kind = .function ∧ (∀ x ∈ scope.names, x.2 = .local → scope.names.lookup x.1 = some .local) ∧
    ∀ p ∈ scope.names, p.2 = .free → (C.env.kindOf p.1 = some .cell ∨ C.env.kindOf p.1 = some .free) := by
  subst hsc
  unfold scopeOk at h
  simp only [Bool.and_eq_true, beq_iff_eq, List.all_eq_true, Bool.or_eq_true, bne_iff_ne, ne_eq] at h
  exact ⟨h.1.1, fun x hx e => (h.1.2 x hx).resolve_left fun q => q e, fun p hp e => (h.2 p hp).resolve_left fun q => q e⟩

/-- what a turn of a comprehension with one clause gives -/
def TurnD (prog : Program) (w : World) (h₀ : Heap) (Cc : Cx) (ρ : Vs) (target elt : Expr) (ifs : List Expr) (d : D) (f : List D) : Prop :=
  ∃ ρ' b, AsgD prog w h₀ Cc ρ target d ρ' ∧ (∀ q ∈ ρ, q ∈ ρ') ∧ IfsD prog w h₀ Cc ρ' ifs b ∧ (b = true → ∃ d, EvD prog w h₀ Cc ρ' elt d ∧ f = [d]) ∧ (b = false → f = [])

theorem turn1 (elt target iter : Expr) (ifs : List Expr) (scope : Scope) (pos : Pos) (I acc : Addr) (env : Env) :
    compTurn (.ListComp elt [⟨target, iter, ifs, 0⟩] scope pos) 0 (.ref I) (.ref acc) env = turnTree iter.pos target ifs (do let _ ← call (.builtin "list.append") [.ref acc, ← eval elt env]) I env (.compLoop (.ListComp elt [⟨target, iter, ifs, 0⟩] scope pos) 0 (.ref I) (.ref acc) env) := rfl
theorem turn20 (elt t1 i1 t2 i2 : Expr) (f1 f2 : List Expr) (scope : Scope) (pos : Pos) (I acc : Addr) (env : Env) :
    compTurn (.ListComp elt [⟨t1, i1, f1, 0⟩, ⟨t2, i2, f2, 0⟩] scope pos) 0 (.ref I) (.ref acc) env = turnTree i1.pos t1 f1 (do
      let x ← eval i2 env
      standAt i2.pos
      let x ← foldedSetIterable i2 env x
      let _ ← runOwn (.compStart (.ListComp elt [⟨t1, i1, f1, 0⟩, ⟨t2, i2, f2, 0⟩] scope pos) 1 (← holding [x] (pyIter x)) (.ref acc) env) env) I env (.compLoop (.ListComp elt [⟨t1, i1, f1, 0⟩, ⟨t2, i2, f2, 0⟩] scope pos) 0 (.ref I) (.ref acc) env) := by
  simp only [turnTree, bind_assoc, pure_bind]
  rfl
theorem turn21 (elt t1 i1 t2 i2 : Expr) (f1 f2 : List Expr) (scope : Scope) (pos : Pos) (I acc : Addr) (env : Env) :
    compTurn (.ListComp elt [⟨t1, i1, f1, 0⟩, ⟨t2, i2, f2, 0⟩] scope pos) 1 (.ref I) (.ref acc) env = turnTree i2.pos t2 f2 (do let _ ← call (.builtin "list.append") [.ref acc, ← eval elt env]) I env (.compLoop (.ListComp elt [⟨t1, i1, f1, 0⟩, ⟨t2, i2, f2, 0⟩] scope pos) 1 (.ref I) (.ref acc) env) := rfl

theorem start1 {elt t1 i1 t2 i2 : Expr} {f1 f2 : List Expr} {scope : Scope} {pos : Pos} {it acc : Value} {env : Env} {A : Around} {R : Result → Shared → Prop} {s : Shared}
    (h0 : codeAny (model prog w) A (.compLoop (.ListComp elt [⟨t1, i1, f1, 0⟩, ⟨t2, i2, f2, 0⟩] scope pos) 1 it acc env) R s)
    (h : wpAny (model prog w) A (pyIter it) (fun it' s' => codeAny (model prog w) A (.compLoop (.ListComp elt [⟨t1, i1, f1, 0⟩, ⟨t2, i2, f2, 0⟩] scope pos) 1 it' acc env) R s')
      (notedBy (model prog w) A env fun x s' => R (.error x) s') s) :
    codeAny (model prog w) A (.compStart (.ListComp elt [⟨t1, i1, f1, 0⟩, ⟨t2, i2, f2, 0⟩] scope pos) 1 it acc env) R s := by
  refine codeAny_of_tree ?_
  show wpAny _ _ ((compStart (.ListComp elt [⟨t1, i1, f1, 0⟩, ⟨t2, i2, f2, 0⟩] scope pos) 1 it acc env).onRaise (fun x => do noteFrame x env; standAt theWindowsPlace)) _ _ s
  refine wpAny_notedAt ?_
  unfold compStart
  show wpAny _ _ (ask >>= _) _ _ s
  refine wpAny_bind (wpAny_askSetting (wpAny_ite ?_))
  split
  · first
      | exact wpAny_bind (wpAny_pure (wpAny_pure (And.intro rfl h0)))
      | exact wpAny_pure (And.intro rfl h0)
  · first
      | exact wpAny_bind (wpAny_rule (wpAny_bind (wpAny_standAt (wpAny_bind (wpAny_mono h (fun it' s' h' => wpAny_pure (And.intro rfl h')) fun _ _ x => x)))))
      | (refine wpAny_bind (wpAny_rule ?_); show wpAny _ _ (standAt i2.pos >>= _) _ _ s; exact wpAny_bind (wpAny_standAt (wpAny_bind (wpAny_mono h (fun it' s' h' => wpAny_pure (And.intro rfl h')) fun _ _ x => x))))

/-- the loop of one clause, as comp_core wants it -/
theorem loop1 {α : Type} {elt target iter : Expr} {ifs : List Expr} {scope sc : Scope} {pos : Pos} (xs : List α) (inj : α → D) (f : α → List D) (hsc : C.env.scope = sc) (hsz : (xs.flatMap f).length ≤ sizeLine)
    (hbody : ∀ x ∈ xs, ∀ Cc, InComp C scope sc Cc → TurnD prog w h₀ Cc (cap scope sc ρ) target elt ifs (inj x) (f x)) :
    ∀ Cb I acc s, CompIn h₀ C scope Cb I acc → Sat h₀ (Cb.also I) (capt scope C.env ρ) s → Fills (Cb.also I) acc [] s.heap → ItAt prog w C.A (Cb.also I).X I (xs.map inj) s.heap → ∀ R : Result → Shared → Prop,
      (∀ s', Sat h₀ Cb (capt scope C.env ρ) s' → Fills Cb acc (xs.flatMap f) s'.heap → KeepsW (fun a => Cb.W a ∨ a = acc ∨ a = I) s s' → R (.ok .next) s') →
      codeAny (model prog w) C.A (.compLoop (.ListComp elt [⟨target, iter, ifs, 0⟩] scope pos) 0 (.ref I) (.ref acc) Cb.env) R s := by
  intro Cb I acc s K S F T R hR
  rw [capt_eq hsc] at S hR
  have hA := K.A
  rw [← hA] at T ⊢
  refine loop_D (ρ := cap scope sc ρ) inj f K.good (turn1 elt target iter ifs scope pos I acc Cb.env) K.xacc K.wacc K.acc0 K.xI K.I0 xs (fun x hx => ?_) [] s R S F T (by simpa using hsz) fun s' S' F' k' => hR s' S' (by simpa using F') k'
  obtain ⟨ρ', b, h1, h2, h3, h4, h5⟩ := hbody x hx _ (K.inComp hsc)
  refine ⟨ρ', b, h1, h2, h3, fun hb => ?_, h5⟩
  obtain ⟨d, hd, e⟩ := h4 hb
  rw [e]
  exact inner_emit (C := Cb.also I) (.inl K.xacc) K.acc0 hd

theorem ev_comp {α : Type} {elt target iter : Expr} {ifs : List Expr} {scope sc : Scope} {pos : Pos} {src : D} (xs : List α) (inj : α → D) (f : α → List D) (hsc : C.env.scope = sc) (hok : scopeOk scope sc = true)
    (hsrc : EvD prog w h₀ C ρ iter src) (hit : IterD src (xs.map inj)) (hsz : (xs.flatMap f).length ≤ sizeLine)
    (hbody : ∀ x ∈ xs, ∀ Cc, InComp C scope sc Cc → TurnD prog w h₀ Cc (cap scope sc ρ) target elt ifs (inj x) (f x)) (hfold : ∀ env x, foldedSetIterable iter env x = pure x := by intro _ _; rfl) :
    EvD prog w h₀ C ρ (.ListComp elt [⟨target, iter, ifs, 0⟩] scope pos) (.list (xs.flatMap f)) := fun s H => by
  obtain ⟨p1, p2, p3⟩ := scope_parts hsc hok
  rw [eval_ListComp]
  exact comp_core (use := none) hsrc hit p1 p2 p3 (hfold _) (loop1 xs inj f hsc hsz hbody) H fun v s' k i => ⟨k, i⟩

/-- the loop of two clauses, as comp_core wants it -/
theorem loop2 {α β : Type} {elt t1 i1 t2 i2 : Expr} {f1 f2 : List Expr} {scope sc : Scope} {pos : Pos} (xs : List α) (inj : α → D) (ys : α → List β) (inj2 : α → β → D) (f : α → β → List D) (hsc : C.env.scope = sc) (hsz : (xs.flatMap fun x => (ys x).flatMap (f x)).length ≤ sizeLine)
    (hbody : ∀ x ∈ xs, ∀ Cc, InComp C scope sc Cc → ∃ ρ' b, AsgD prog w h₀ Cc (cap scope sc ρ) t1 (inj x) ρ' ∧ (∀ q ∈ cap scope sc ρ, q ∈ ρ') ∧ IfsD prog w h₀ Cc ρ' f1 b ∧ (b = false → (ys x).flatMap (f x) = []) ∧
      (b = true → ∃ src2, EvD prog w h₀ Cc ρ' i2 src2 ∧ IterD src2 ((ys x).map (inj2 x)) ∧ ∀ y ∈ ys x, ∀ Cc', InComp C scope sc Cc' → TurnD prog w h₀ Cc' ρ' t2 elt f2 (inj2 x y) (f x y)))
    (hfold2 : ∀ env x, foldedSetIterable i2 env x = pure x) :
    ∀ Cb I acc s, CompIn h₀ C scope Cb I acc → Sat h₀ (Cb.also I) (capt scope C.env ρ) s → Fills (Cb.also I) acc [] s.heap → ItAt prog w C.A (Cb.also I).X I (xs.map inj) s.heap → ∀ R : Result → Shared → Prop,
      (∀ s', Sat h₀ Cb (capt scope C.env ρ) s' → Fills Cb acc (xs.flatMap fun x => (ys x).flatMap (f x)) s'.heap → KeepsW (fun a => Cb.W a ∨ a = acc ∨ a = I) s s' → R (.ok .next) s') →
      codeAny (model prog w) C.A (.compLoop (.ListComp elt [⟨t1, i1, f1, 0⟩, ⟨t2, i2, f2, 0⟩] scope pos) 0 (.ref I) (.ref acc) Cb.env) R s := by
  intro Cb I acc s K S F T R hR
  rw [capt_eq hsc] at S hR
  have hA := K.A
  rw [← hA] at T ⊢
  refine loop_D (ρ := cap scope sc ρ) inj (fun x => (ys x).flatMap (f x)) K.good (turn20 elt t1 i1 t2 i2 f1 f2 scope pos I acc Cb.env) K.xacc K.wacc K.acc0 K.xI K.I0 xs (fun x hx => ?_) [] s R S F T (by simpa using hsz) fun s' S' F' k' => hR s' S' (by simpa using F') k'
  obtain ⟨ρ', b, h1, h2, h3, h5, h4⟩ := hbody x hx _ (K.inComp hsc)
  refine ⟨ρ', b, h1, h2, h3, fun hb => ?_, h5⟩
  obtain ⟨src2, hs2, hi2, ht2⟩ := h4 hb
  intro out s₁ H₁ F₁ hsz₁
  refine wpAny_bind (hs2.then H₁ fun v s₂ k₂ H₂ i₂ => wpAny_bind (wpAny_standAt (wpAny_bind (wpAny_of_eq (hfold2 _ v) ?_))))
  refine wpAny_bind (wpAny_holding (wpAny_mono (iter_D (prog := prog) (w := w) (A := (Cb.also I).A) K.good.hh H₂.fresh hi2 i₂) (fun it s₃ z => ?_) fun _ _ z => z.elim))
  obtain ⟨rfl, ⟨o, rfl⟩, T₃⟩ := z
  have T3 := T₃ Cb.A ((Cb.also I).also s₂.heap.objs.size).X K.good.hh fun a z => z.imp id fun z => by rw [z]; exact Nat.le_refl _
  obtain ⟨oI, fs, eI, hdI⟩ := T3.obj
  have hof : o.isFreed = false := by
    have := Heap.get?_some_iff.mp eI
    have e2 : (s₂.heap.push o).objs[s₂.heap.objs.size]? = some o := by cases h : s₂.heap; simp [Heap.push]
    rw [show ({ s₂ with heap := s₂.heap.push o } : Shared).heap.objs[s₂.heap.objs.size]? = some o from e2] at this
    obtain ⟨q, q'⟩ := this
    cases q; exact q'
  have H₃ := H₂.also o hof
  have F₃ : Fills ((Cb.also I).also s₂.heap.objs.size) acc out (s₂.heap.push o) := by
    obtain ⟨vs, n, e, i⟩ := F₁
    have e₂ := keeps_get k₂ e
    refine ⟨vs, n, Heap.get?_push_of_some _ e₂, (i.keeps k₂).mono fun b o' nb eb => ⟨fun z => z.elim nb fun z => ?_, Heap.get?_push_of_some _ eb⟩⟩
    rw [z] at eb; exact Nat.lt_irrefl _ (Heap.lt_size eb)
  have nX : ¬ (Cb.also I).X s₂.heap.objs.size := H₂.fresh
  have n0 : h₀.get? s₂.heap.objs.size = none := H₂.old0 (Nat.le_refl _)
  have fin : codeAny (model prog w) Cb.A (.compLoop (.ListComp elt [⟨t1, i1, f1, 0⟩, ⟨t2, i2, f2, 0⟩] scope pos) 1 (.ref s₂.heap.objs.size) (.ref acc) Cb.env)
      (fun r s' => match r with | .ok _ => wpAny (model prog w) (Cb.also I).A (pure ()) (fun _ s' => Sat h₀ (Cb.also I) ρ' s' ∧ Fills (Cb.also I) acc (out ++ (ys x).flatMap (f x)) s'.heap ∧ Keeps2 (Cb.also I).W acc s₁ s') no s' | .error e => cameBackBy (model prog w) (Cb.also I).A (Cb.also I).env no e s')
      { s₂ with heap := s₂.heap.push o } := by
    refine loop_D (C := Cb.also I) (ρ := ρ') (inj2 x) (f x) (K.good.also I) (turn21 elt t1 i1 t2 i2 f1 f2 scope pos s₂.heap.objs.size acc Cb.env) (.inl K.xacc) K.wacc K.acc0 nX n0 (ys x) (fun y hy => ?_) out _ _ H₃ F₃ T3 hsz₁ fun s' S' F' k' => ?_
    · obtain ⟨ρ'', b', g1, g2, g3, g4, g5⟩ := ht2 y hy ((Cb.also I).also s₂.heap.objs.size) ⟨K.A, (K.inComp hsc).scp, (K.inComp hsc).sto⟩
      refine ⟨ρ'', b', g1, g2, g3, fun hb => ?_, g5⟩
      obtain ⟨d, hd, e⟩ := g4 hb
      rw [e]
      exact inner_emit (C := (Cb.also I).also s₂.heap.objs.size) (.inl (.inl K.xacc)) K.acc0 hd
    · refine wpAny_pure ⟨S', F', keepsW_trans (keepsW_of k₂) ?_⟩
      obtain ⟨h', t', rfl, l, kk⟩ := k'
      refine ⟨h', t', rfl, l, fun b o' nb e => kk b o' ?_ (Heap.get?_push_of_some _ e)⟩
      rintro (z | z | z)
      · exact nb (.inl z)
      · exact nb (.inr z)
      · rw [z] at e; exact Nat.lt_irrefl _ (Heap.lt_size e)
  exact wpAny_bind (wpAny_runOwn (start1 fin (T3.self fin)))
/-- two clauses: the first one's items go through f, a list each -/
theorem ev_comp2 {α β : Type} {elt t1 i1 t2 i2 : Expr} {f1 f2 : List Expr} {scope sc : Scope} {pos : Pos} {src : D} (xs : List α) (inj : α → D) (ys : α → List β) (inj2 : α → β → D) (f : α → β → List D) (hsc : C.env.scope = sc) (hok : scopeOk scope sc = true)
    (hsrc : EvD prog w h₀ C ρ i1 src) (hit : IterD src (xs.map inj)) (hsz : (xs.flatMap fun x => (ys x).flatMap (f x)).length ≤ sizeLine)
    (hbody : ∀ x ∈ xs, ∀ Cc, InComp C scope sc Cc → ∃ ρ' b, AsgD prog w h₀ Cc (cap scope sc ρ) t1 (inj x) ρ' ∧ (∀ q ∈ cap scope sc ρ, q ∈ ρ') ∧ IfsD prog w h₀ Cc ρ' f1 b ∧ (b = false → (ys x).flatMap (f x) = []) ∧
      (b = true → ∃ src2, EvD prog w h₀ Cc ρ' i2 src2 ∧ IterD src2 ((ys x).map (inj2 x)) ∧ ∀ y ∈ ys x, ∀ Cc', InComp C scope sc Cc' → TurnD prog w h₀ Cc' ρ' t2 elt f2 (inj2 x y) (f x y)))
    (hfold : ∀ env x, foldedSetIterable i1 env x = pure x := by intro _ _; rfl) (hfold2 : ∀ env x, foldedSetIterable i2 env x = pure x := by intro _ _; rfl) :
    EvD prog w h₀ C ρ (.ListComp elt [⟨t1, i1, f1, 0⟩, ⟨t2, i2, f2, 0⟩] scope pos) (.list (xs.flatMap fun x => (ys x).flatMap (f x))) := fun s H => by
  obtain ⟨p1, p2, p3⟩ := scope_parts hsc hok
  rw [eval_ListComp]
  exact comp_core (use := none) hsrc hit p1 p2 p3 (hfold _) (loop2 xs inj ys inj2 f hsc hsz hbody hfold2) H fun v s' k i => ⟨k, i⟩
end
end Mine

set_option Elab.async false
set_option linter.unusedVariables false
set_option linter.unusedSimpArgs false
namespace Mine
section
variable {prog : Program} {w : World} {h₀ : Heap} {C : Cx} {ρ : Vs}

/-! several expressions -/
def EvsD (prog : Program) (w : World) (h₀ : Heap) (C : Cx) (ρ : Vs) (es : List Expr) (ds : List D) : Prop :=
  ∀ pos s, Sat h₀ C ρ s → wpAny (model prog w) C.A (spliced (backTo pos (starEach es C.env))) (fun vs s' => Keeps s s' ∧ IsAll C.X s'.heap vs ds) no s
theorem evs_nil : EvsD prog w h₀ C ρ [] [] := fun pos s H => wpAny_items_nil ⟨keeps_refl s, .nil⟩
theorem evs_cons {e : Expr} {rest : List Expr} {d : D} {ds : List D} (h : EvD prog w h₀ C ρ e d) (hr : EvsD prog w h₀ C ρ rest ds)
    (he : ∀ env, starEach (e :: rest) env = (false, eval e env) :: starEach rest env := by intro _; rfl) : EvsD prog w h₀ C ρ (e :: rest) (d :: ds) := fun pos s H =>
  wpAny_items_cons (h.then H fun v s₁ k₁ H₁ i₁ => wpAny_mono (hr pos s₁ H₁) (fun vs s₂ z => ⟨keeps_trans k₁ z.1, .cons (i₁.keeps z.1) z.2⟩) fun _ _ z => z) (he _)
theorem EvsD.then {es : List Expr} {ds : List D} (h : EvsD prog w h₀ C ρ es ds) {pos : Pos} {s : Shared} (H : Sat h₀ C ρ s) {Q : List Value → Shared → Prop} {E : Value → Shared → Prop}
    (k : ∀ vs s', Keeps s s' → Sat h₀ C ρ s' → IsAll C.X s'.heap vs ds → Q vs s') : wpAny (model prog w) C.A (spliced (backTo pos (starEach es C.env))) Q E s :=
  wpAny_mono (h pos s H) (fun v s' z => k v s' z.1 (H.keeps z.1) z.2) fun _ _ z => z.elim

theorem ev_tuple {es : List Expr} {k : Nat} {pos : Pos} {ds : List D} (h : EvsD prog w h₀ C ρ es ds) (hsz : ds.length ≤ sizeLine := by decide) : EvD prog w h₀ C ρ (.Tuple es k pos) (.tup ds) := fun s H =>
  wpAny_Tuple (h.then H fun vs s₁ k₁ H₁ i₁ => ⟨by rw [i₁.length]; exact hsz, keeps_trans k₁ (keeps_push _ _), .tup H₁.fresh (n := 0) (Heap.get?_push_size _ rfl) (i₁.keeps (keeps_push _ _))⟩)
theorem ev_list {es : List Expr} {pos : Pos} {ds : List D} (h : EvsD prog w h₀ C ρ es ds) (hsz : ds.length ≤ sizeLine := by decide) : EvD prog w h₀ C ρ (.List es pos) (.list ds) := fun s H =>
  wpAny_List (h.then H fun vs s₁ k₁ H₁ i₁ => ⟨by rw [i₁.length]; exact hsz, keeps_trans k₁ (keeps_push _ _), .list H₁.fresh (n := 0) (Heap.get?_push_size _ rfl) (i₁.keeps (keeps_push _ _))⟩)

/-! global names -/
theorem ev_glob {x : Str} {pos : Pos} {mg : Str → Option Value} {v : Value} {sc : Scope} (hg : h₀.Ns mainGlobals mg) (hv : mg x = some v) (hsc : C.env.scope = sc) (hk : sc.names.lookup x = some .globalImplicit)
    (hd : (x == ("__debug__" : Str)) = false := by decide +kernel) : EvV prog w h₀ C ρ (.Name x pos) v := fun s H => by
  subst hsc
  refine Calls.Name_function_global H.good.fn hk (Calls.loadGlobal_global (mg := mg) ?_ hv ⟨keeps_refl s, rfl⟩) hd
  rw [H.good.glob]; exact hg.keeps H.top
theorem ev_bi {x : Str} {pos : Pos} {mg mb : Str → Option Value} {v : Value} {sc : Scope} (hg : h₀.Ns mainGlobals mg) (hm : mg x = none) (hb : h₀.Ns builtinsNs mb) (hv : mb x = some v) (hsc : C.env.scope = sc) (hk : sc.names.lookup x = some .globalImplicit)
    (hd : (x == ("__debug__" : Str)) = false := by decide +kernel) : EvV prog w h₀ C ρ (.Name x pos) v := fun s H => by
  subst hsc
  refine Calls.Name_function_global H.good.fn hk (Calls.loadGlobal_builtin (mg := mg) ?_ hm ?_ hv ⟨keeps_refl s, rfl⟩) hd
  · rw [H.good.glob]; exact hg.keeps H.top
  · rw [H.good.bi]; exact hb.keeps H.top

/-! calls -/
structure Room (A : Around) (n : Nat) : Prop where
  hh : A.handled = none
  depth : A.depth + n < recursionLimit
  units : A.units + 100 + 4 * n < cLine
theorem Room.less {A : Around} {n m : Nat} (r : Room A n) (h : m ≤ n) : Room A m := ⟨r.hh, by have := r.depth; omega, by have := r.units; omega⟩

/-- what a call of f with these data gives back; n frames at most stand on the call's -/
def FnD (prog : Program) (w : World) (h₀ : Heap) (f : Addr) (n : Nat) (ds : List D) (d : D) : Prop :=
  ∀ (A : Around) (X : Addr → Prop) (s : Shared) (vs : List Value), Room A n → s.gens = #[] → @LE.le Nat _ 1 s.toks → (∀ b o, h₀.get? b = some o → s.heap.get? b = some o) → (∀ a, X a → ∃ o, s.heap.get? a = some o) → IsAll X s.heap vs ds →
    wpAny (model prog w) A (call (.ref f) vs) (fun v s' => Keeps s s' ∧ Is X s'.heap v d) no s

theorem ev_call {id : Str} {p pos : Pos} {e : Expr} {rest : List Expr} {f : Addr} {o : Obj} {fd : FuncData} {n : Nat} {ds : List D} {d : D} (hf : EvV prog w h₀ C ρ (.Name id p) (.ref f)) (ho : h₀.get? f = some o) (hd : o.data = .func fd)
    (hargs : EvsD prog w h₀ C ρ (e :: rest) ds) (hfn : FnD prog w h₀ f n ds d) (hr : Room C.A n) (he : ∀ env, starEach (e :: rest) env = (false, eval e env) :: starEach rest env := by intro _; rfl) :
    EvD prog w h₀ C ρ (.Call (.Name id p) (e :: rest) [] pos) d := fun s H => by
  refine wpAny_Call_Name_kw (hf.then H fun s₁ k₁ H₁ => ?_)
  refine callWith_def hd (hargs.then H₁ fun vs s₂ k₂ H₂ i₂ => ⟨H₂.top _ _ ho, ?_⟩) (he _)
  exact wpAny_mono (hfn C.A C.X s₂ vs hr H₂.gens H₂.toks H₂.top H₂.alloc i₂) (fun v s₃ z => ⟨keeps_trans k₁ (keeps_trans k₂ z.1), z.2⟩) fun _ _ z => z
/-- a built-in function's call -/
def BiD (prog : Program) (w : World) (h₀ : Heap) (C : Cx) (ρ : Vs) (f : Value) (ds : List D) (d : D) : Prop :=
  ∀ s vs, Sat h₀ C ρ s → IsAll C.X s.heap vs ds → wpAny (model prog w) C.A (call f vs) (fun v s' => Keeps s s' ∧ Is C.X s'.heap v d) no s
theorem ev_callB {id : Str} {p pos : Pos} {e : Expr} {rest : List Expr} {b : String} {ds : List D} {d : D} (hf : EvV prog w h₀ C ρ (.Name id p) (.builtin b))
    (hargs : EvsD prog w h₀ C ρ (e :: rest) ds) (hb : BiD prog w h₀ C ρ (.builtin b) ds d) (he : ∀ env, starEach (e :: rest) env = (false, eval e env) :: starEach rest env := by intro _; rfl)
    (hplain : ∀ pos env, (backTo pos (starEach rest env)).any (·.1) = false := by intro _ _; rfl) :
    EvD prog w h₀ C ρ (.Call (.Name id p) (e :: rest) [] pos) d := fun s H => by
  refine wpAny_Call_Name_kw (hf.then H fun s₁ k₁ H₁ => ?_)
  refine callWith_builtin1 (hargs.then H₁ fun vs s₂ k₂ H₂ i₂ => ?_) (he _) (hplain _ _)
  exact wpAny_mono (hb s₂ vs H₂ i₂) (fun v s₃ z => ⟨keeps_trans k₁ (keeps_trans k₂ z.1), z.2⟩) fun _ _ z => z
theorem ev_callT {id : Str} {p pos : Pos} {e : Expr} {rest : List Expr} {T : String} {ds : List D} {d : D} (hf : EvV prog w h₀ C ρ (.Name id p) (.type T))
    (hargs : EvsD prog w h₀ C ρ (e :: rest) ds) (hb : BiD prog w h₀ C ρ (.type T) ds d) (he : ∀ env, starEach (e :: rest) env = (false, eval e env) :: starEach rest env := by intro _; rfl)
    (hplain : ∀ pos env, (backTo pos (starEach rest env)).any (·.1) = false := by intro _ _; rfl) :
    EvD prog w h₀ C ρ (.Call (.Name id p) (e :: rest) [] pos) d := fun s H => by
  refine wpAny_Call_Name_kw (hf.then H fun s₁ k₁ H₁ => ?_)
  refine PyProof.Rows.callWith_type1 (hargs.then H₁ fun vs s₂ k₂ H₂ i₂ => ?_) (he _) (hplain _ _)
  exact wpAny_mono (hb s₂ vs H₂ i₂) (fun v s₃ z => ⟨keeps_trans k₁ (keeps_trans k₂ z.1), z.2⟩) fun _ _ z => z

/-! tests and choices -/
theorem tr_of {e : Expr} {d : D} {b : Bool} (h : EvD prog w h₀ C ρ e d) (ht : ∀ v s, Is C.X s.heap v d → ∀ Q E, Q b s → wpAny (model prog w) C.A (truthy v) Q E s)
    (he : ∀ env whole, isTrue e env whole = (do let v ← whole; standAt e.pos; holding [v] (truthy v)) := by intro _ _; rfl) : TrD prog w h₀ C ρ e b := fun s H => by
  rw [he]
  exact wpAny_bind (h.then H fun v s₁ k₁ H₁ i₁ => wpAny_bind (wpAny_standAt (wpAny_holding (ht v s₁ i₁ _ _ ⟨k₁, rfl⟩))))
theorem ev_if {t a b : Expr} {pos : Pos} {c : Bool} {d : D} (ht : TrD prog w h₀ C ρ t c) (ha : c = true → EvD prog w h₀ C ρ a d) (hb : c = false → EvD prog w h₀ C ρ b d) : EvD prog w h₀ C ρ (.IfExp t a b pos) d := fun s H => by
  refine wpAny_IfExp (ht.then H fun s₁ k₁ H₁ => ?_)
  cases c with
  | true => exact (ha rfl).then H₁ fun v s₂ k₂ H₂ i₂ => ⟨keeps_trans k₁ k₂, i₂⟩
  | false => exact (hb rfl).then H₁ fun v s₂ k₂ H₂ i₂ => ⟨keeps_trans k₁ k₂, i₂⟩
theorem tr_and2 {x y : Expr} {pos : Pos} {a b : Bool} (hx : TrD prog w h₀ C ρ x a) (hy : a = true → TrD prog w h₀ C ρ y b) : TrD prog w h₀ C ρ (.BoolOp .And [x, y] pos) (a && b) := fun s H => by
  refine wpAny_isTrue_BoolOp (wpAny_allTrue_And_cons (hx.then H fun s₁ k₁ H₁ => ?_))
  cases a with
  | false => exact ⟨k₁, rfl⟩
  | true =>
    refine wpAny_allTrue_And_cons ((hy rfl).then H₁ fun s₂ k₂ H₂ => ?_)
    cases b with
    | false => exact ⟨keeps_trans k₁ k₂, rfl⟩
    | true => exact wpAny_allTrue_And_nil ⟨keeps_trans k₁ k₂, rfl⟩
theorem tr_or2 {x y : Expr} {pos : Pos} {a b : Bool} (hx : TrD prog w h₀ C ρ x a) (hy : a = false → TrD prog w h₀ C ρ y b) : TrD prog w h₀ C ρ (.BoolOp .Or [x, y] pos) (a || b) := fun s H => by
  refine wpAny_isTrue_BoolOp (wpAny_allTrue_Or_cons (hx.then H fun s₁ k₁ H₁ => ?_))
  cases a with
  | true => exact ⟨k₁, rfl⟩
  | false =>
    refine wpAny_allTrue_Or_cons ((hy rfl).then H₁ fun s₂ k₂ H₂ => ?_)
    cases b with
    | true => exact ⟨keeps_trans k₁ k₂, rfl⟩
    | false => exact wpAny_allTrue_Or_nil ⟨keeps_trans k₁ k₂, rfl⟩
end
end Mine

set_option Elab.async false
set_option linter.unusedVariables false
set_option linter.unusedSimpArgs false
namespace Mine

inductive Out where
  | next (ρ : Vs)
  | ret (d : D)
  | brk (ρ : Vs)

def OutOk (h₀ : Heap) (C : Cx) : Out → Flow → Shared → Prop
  | .next ρ, f, s => f = .next ∧ Sat h₀ C ρ s
  | .ret d, f, s => ∃ v, f = .ret v ∧ Is C.X s.heap v d
  | .brk ρ, f, s => f = .brk ∧ Sat h₀ C ρ s

section
variable {prog : Program} {w : World} {h₀ : Heap} {C : Cx} {ρ : Vs}

def ExD (prog : Program) (w : World) (h₀ : Heap) (C : Cx) (ρ : Vs) (st : Stmt) (o : Out) : Prop :=
  ∀ s, Sat h₀ C ρ s → wpAny (model prog w) C.A (exec st C.env) (fun f s' => KeepsW C.W s s' ∧ OutOk h₀ C o f s') no s
def ExsD (prog : Program) (w : World) (h₀ : Heap) (C : Cx) (ρ : Vs) (sts : List Stmt) (o : Out) : Prop :=
  ∀ s, Sat h₀ C ρ s → wpAny (model prog w) C.A (execs sts C.env) (fun f s' => KeepsW C.W s s' ∧ OutOk h₀ C o f s') no s

theorem ExsD.sub {ρ' : Vs} {sts : List Stmt} {o : Out} (h : ExsD prog w h₀ C ρ sts o) (hs : ∀ p ∈ ρ, p ∈ ρ') : ExsD prog w h₀ C ρ' sts o := fun s H => h s (H.sub hs)
theorem ExD.sub {ρ' : Vs} {sts : Stmt} {o : Out} (h : ExD prog w h₀ C ρ sts o) (hs : ∀ p ∈ ρ, p ∈ ρ') : ExD prog w h₀ C ρ' sts o := fun s H => h s (H.sub hs)
theorem ExD.less {ρ' ρ'' : Vs} {st : Stmt} (h : ExD prog w h₀ C ρ st (.next ρ')) (hs : ∀ p ∈ ρ'', p ∈ ρ') : ExD prog w h₀ C ρ st (.next ρ'') := fun s H =>
  wpAny_mono (h s H) (fun f s' z => ⟨z.1, z.2.1, z.2.2.sub hs⟩) fun _ _ z => z
theorem ExsD.less {ρ' ρ'' : Vs} {st : List Stmt} (h : ExsD prog w h₀ C ρ st (.next ρ')) (hs : ∀ p ∈ ρ'', p ∈ ρ') : ExsD prog w h₀ C ρ st (.next ρ'') := fun s H =>
  wpAny_mono (h s H) (fun f s' z => ⟨z.1, z.2.1, z.2.2.sub hs⟩) fun _ _ z => z
theorem exs_nil : ExsD prog w h₀ C ρ [] (.next ρ) := fun s H => wpAny_execs_nil ⟨keepsW_refl _ s, rfl, H⟩
theorem exs_cons {st : Stmt} {rest : List Stmt} {ρ' : Vs} {o : Out} (h : ExD prog w h₀ C ρ st (.next ρ')) (hr : ExsD prog w h₀ C ρ' rest o) : ExsD prog w h₀ C ρ (st :: rest) o := fun s H => by
  refine wpAny_execs_cons (wpAny_mono (h s H) (fun f s₁ z => ?_) fun _ _ z => z)
  obtain ⟨k₁, rfl, H₁⟩ := z
  exact wpAny_mono (hr s₁ H₁) (fun f s₂ z => ⟨keepsW_trans k₁ z.1, z.2⟩) fun _ _ z => z
theorem exs_ret {st : Stmt} {rest : List Stmt} {d : D} (h : ExD prog w h₀ C ρ st (.ret d)) : ExsD prog w h₀ C ρ (st :: rest) (.ret d) := fun s H => by
  refine wpAny_execs_cons (wpAny_mono (h s H) (fun f s₁ z => ?_) fun _ _ z => z)
  obtain ⟨k₁, v, rfl, i⟩ := z
  exact ⟨k₁, v, rfl, i⟩
theorem exs_brk {st : Stmt} {rest : List Stmt} {ρ' : Vs} (h : ExD prog w h₀ C ρ st (.brk ρ')) : ExsD prog w h₀ C ρ (st :: rest) (.brk ρ') := fun s H => by
  refine wpAny_execs_cons (wpAny_mono (h s H) (fun f s₁ z => ?_) fun _ _ z => z)
  obtain ⟨k₁, rfl, i⟩ := z
  exact ⟨k₁, rfl, i⟩

theorem ex_ret {e : Expr} {pos : Pos} {d : D} (h : EvD prog w h₀ C ρ e d) : ExD prog w h₀ C ρ (.Return (some e) pos) (.ret d) := fun s H =>
  wpAny_Return_some (h.then H fun v s₁ k₁ H₁ i₁ => ⟨keepsW_of k₁, v, rfl, i₁⟩)
theorem ex_brk {pos : Pos} : ExD prog w h₀ C ρ (.Break pos) (.brk ρ) := fun s H => wpAny_Break ⟨keepsW_refl _ s, rfl, H⟩
theorem ex_assign {x : Str} {px pos : Pos} {e : Expr} {d : D} (h : EvD prog w h₀ C ρ e d) (hk : Stores C x) (hs : swapsWith e (some (.Name x px)) pos.line C.env = pure false := by rfl) :
    ExD prog w h₀ C ρ (.Assign [.Name x px] e pos) (.next (put ρ x d)) := fun s H =>
  wpAny_Assign_Name (h.then H fun v s₁ k₁ H₁ i₁ => wpAny_mono (store_name hk H₁ i₁) (fun _ s₂ z => ⟨keepsW_trans (keepsW_of k₁) z.1, rfl, z.2⟩) fun _ _ z => z) hs
theorem ex_aug {x : Str} {px pos : Pos} {op : Operator} {e : Expr} {a b d : D} (hx : (x, a) ∈ ρ) (h : EvD prog w h₀ C ρ e b) (hk : Stores C x)
    (hop : ∀ va vb s, Sat h₀ C ρ s → Is C.X s.heap va a → Is C.X s.heap vb b → wpAny (model prog w) C.A (inplaceOp op va vb) (fun v s' => Keeps s s' ∧ Is C.X s'.heap v d) no s)
    (hn : (x == ("__classdict__" : Str)) = false := by decide +kernel) :
    ExD prog w h₀ C ρ (.AugAssign (.Name x px) op e pos) (.next (put ρ x d)) := fun s H => by
  obtain ⟨v, i, hv⟩ := H.vars _ hx
  have ld : ∀ {Q : Value → Shared → Prop} {E : Value → Shared → Prop}, Q v s → wpAny (model prog w) C.A (loadName C.env x) Q E s := fun {Q E} q => by
    rcases hv with ⟨a, m, b, c⟩ | ⟨a | a, c, b, e⟩
    · exact wpAny_loadName_local H.good.fn a b c q
    · exact wpAny_loadName_cell H.good.fn a b e q
    · exact wpAny_loadName_free H.good.fn a b e q hn
  refine wpAny_AugAssign_Name (ld (h.then H fun vb s₁ k₁ H₁ i₁ => wpAny_mono (hop v vb s₁ H₁ (i.keeps k₁) i₁) (fun r s₂ z => ?_) fun _ _ z => z.elim))
  exact wpAny_mono (store_name hk (H₁.keeps z.1) z.2) (fun _ s₃ y => ⟨keepsW_trans (keepsW_of (keeps_trans k₁ z.1)) y.1, rfl, y.2⟩) fun _ _ z => z
theorem ex_if {t : Expr} {body orelse : List Stmt} {pos : Pos} {c : Bool} {o : Out} (ht : TrD prog w h₀ C ρ t c) (ha : c = true → ExsD prog w h₀ C ρ body o) (hb : c = false → ExsD prog w h₀ C ρ orelse o) : ExD prog w h₀ C ρ (.If t body orelse pos) o := fun s H => by
  refine wpAny_If (ht.then H fun s₁ k₁ H₁ => ?_)
  cases c with
  | true => exact wpAny_mono (ha rfl s₁ H₁) (fun f s₂ z => ⟨keepsW_trans (keepsW_of k₁) z.1, z.2⟩) fun _ _ z => z
  | false => exact wpAny_mono (hb rfl s₁ H₁) (fun f s₂ z => ⟨keepsW_trans (keepsW_of k₁) z.1, z.2⟩) fun _ _ z => z
theorem ex_assignT {target e : Expr} {elts : List Expr} {k : Nat} {tp pos : Pos} {d : D} {ρ' : Vs} (h : EvD prog w h₀ C ρ e d) (ha : AsgD prog w h₀ C ρ (.Tuple elts k tp) d ρ')
    (hs : swapsWithSole [.Tuple elts k tp] e pos.line C.env = pure false := by rfl) (hw : swappedStores [.Tuple elts k tp] e C.env = pure none := by rfl) :
    ExD prog w h₀ C ρ (.Assign [.Tuple elts k tp] e pos) (.next ρ') := fun s H =>
  Assign_Tuple (h.then H fun v s₁ k₁ H₁ i₁ => wpAny_mono (ha v s₁ H₁ i₁) (fun _ s₂ z => ⟨keepsW_trans (keepsW_of k₁) z.1, rfl, z.2⟩) fun _ _ z => z) hs hw
theorem ex_swap2 {e : Expr} {elts : List Expr} {k : Nat} {tp pos : Pos} {x y : Str} {a b : D} (h : EvD prog w h₀ C ρ e (.tup [a, b])) (hx : Stores C x) (hy : Stores C y)
    (hs : swapsWithSole [.Tuple elts k tp] e pos.line C.env = pure false) (hw : swappedStores [.Tuple elts k tp] e C.env = pure (some [x, y])) :
    ExD prog w h₀ C ρ (.Assign [.Tuple elts k tp] e pos) (.next (put (put ρ y b) x a)) := fun s H => by
  refine Assign_Tuple_swapped (names := [x, y]) (h.then H fun v s₁ k₁ H₁ i₁ => ?_) hs hw
  obtain ⟨ad, vs, n, rfl, hX, ho, hs⟩ := i₁.tup_inv
  obtain ⟨v, u, rfl, iv, iu⟩ := hs.two
  refine wpAny_unpackItems_tuple (items := #[v, u]) H.good.hh (isTuple_of ho) fun h' he => ?_
  have k0 : Keeps s₁ { s₁ with heap := h' } := keeps_heap fun b o e => he b o (Nat.ne_of_lt (Heap.lt_size e)) e
  show wpAny _ _ (do holding [v] (bindName C.env y u); holding [] (bindName C.env x v); pure ()) _ _ _
  refine wpAny_bind (wpAny_holding (wpAny_bindName (wpAny_mono (store_name hy (H₁.keeps k0) (iu.keeps k0)) (fun _ s₂ h₂ => ?_) fun _ _ z => z)))
  refine wpAny_bind (wpAny_holding (wpAny_bindName (wpAny_mono (store_name hx h₂.2 ((iv.keeps k0).keepsW h₂.1 H.good.sub)) (fun _ s₃ h₃ => ?_) fun _ _ z => z)))
  exact wpAny_pure ⟨keepsW_trans (keepsW_of (keeps_trans k₁ k0)) (keepsW_trans h₂.1 h₃.1), rfl, h₃.2⟩

/-- a comprehension whose list goes into a local name -/
theorem ex_comp {α : Type} {elt target iter : Expr} {ifs : List Expr} {scope sc : Scope} {y : Str} {py pos spos : Pos} {src : D} (xs : List α) (inj : α → D) (f : α → List D) (hsc : C.env.scope = sc) (hok : scopeOk scope sc = true)
    (hsrc : EvD prog w h₀ C ρ iter src) (hit : IterD src (xs.map inj)) (hsz : (xs.flatMap f).length ≤ sizeLine)
    (hbody : ∀ x ∈ xs, ∀ Cc, InComp C scope sc Cc → TurnD prog w h₀ Cc (cap scope sc ρ) target elt ifs (inj x) (f x)) (hy : Stores C y)
    (hsw : swapsWith (.ListComp elt [⟨target, iter, ifs, 0⟩] scope pos) (some (.Name y py)) spos.line C.env = pure true) (hfold : ∀ env x, foldedSetIterable iter env x = pure x := by intro _ _; rfl) :
    ExD prog w h₀ C ρ (.Assign [.Name y py] (.ListComp elt [⟨target, iter, ifs, 0⟩] scope pos) spos) (.next (put ρ y (.list (xs.flatMap f)))) := fun s H => by
  obtain ⟨p1, p2, p3⟩ := scope_parts hsc hok
  rw [exec_Assign_Name_used _ _ _ _ hsw]
  refine wpAny_bind (wpAny_standAt (wpAny_bind ?_))
  show wpAny _ C.A (do let _ ← comprehension (.ListComp elt [⟨target, iter, ifs, 0⟩] scope pos) scope C.env _ (newList []) false (eval iter C.env) (some (assign (.Name y py) C.env))) _ _ s
  refine wpAny_bind (wpAny_mono (comp_core (use := some (assign (.Name y py) C.env)) (E := no) (Q := fun _ s' => KeepsW C.W s s' ∧ Sat h₀ C (put ρ y (.list (xs.flatMap f))) s') hsrc hit p1 p2 p3 (hfold _) (loop1 xs inj f hsc hsz hbody) H ?_)
    (fun _ s' z => wpAny_pure (wpAny_pure ⟨z.1, rfl, z.2⟩)) fun _ _ z => z)
  intro v s' L k SL iL wL nL lne cne n0 nX nL0
  refine wpAny_assign_Name (wpAny_mono (store_name (C := C.also L) (d := .list (xs.flatMap f)) hy SL iL) (fun _ s'' z => ⟨z.1, fun h' hs => ?_⟩) fun _ _ z => z)
  have kw : KeepsW (· = L) s'' { s'' with heap := h' } := ⟨h', _, rfl, Nat.le_refl _, fun b o nb e => (hs.2 b nb).trans e⟩
  refine ⟨?_, z.2.drop H.good nX lne cne n0 kw⟩
  obtain ⟨h1, t1, e1, l1, k1⟩ := keepsW_trans (keepsW_of (W := C.W) k) z.1
  subst e1
  exact ⟨h', t1, rfl, l1, fun b o nb e => (hs.2 b fun q => by rw [q, nL0] at e; cases e).trans (k1 b o nb e)⟩

/-- a comprehension whose list goes into a local name -/
theorem ex_comp2 {α β : Type} {elt t1 i1 t2 i2 : Expr} {f1 f2 : List Expr} {scope sc : Scope} {y : Str} {py pos spos : Pos} {src : D} (xs : List α) (inj : α → D) (ys : α → List β) (inj2 : α → β → D) (f : α → β → List D) (hsc : C.env.scope = sc) (hok : scopeOk scope sc = true)
    (hsrc : EvD prog w h₀ C ρ i1 src) (hit : IterD src (xs.map inj)) (hsz : (xs.flatMap fun x => (ys x).flatMap (f x)).length ≤ sizeLine)
    (hbody : ∀ x ∈ xs, ∀ Cc, InComp C scope sc Cc → ∃ ρ' b, AsgD prog w h₀ Cc (cap scope sc ρ) t1 (inj x) ρ' ∧ (∀ q ∈ cap scope sc ρ, q ∈ ρ') ∧ IfsD prog w h₀ Cc ρ' f1 b ∧ (b = false → (ys x).flatMap (f x) = []) ∧
      (b = true → ∃ src2, EvD prog w h₀ Cc ρ' i2 src2 ∧ IterD src2 ((ys x).map (inj2 x)) ∧ ∀ y ∈ ys x, ∀ Cc', InComp C scope sc Cc' → TurnD prog w h₀ Cc' ρ' t2 elt f2 (inj2 x y) (f x y))) (hy : Stores C y)
    (hsw : swapsWith (.ListComp elt [⟨t1, i1, f1, 0⟩, ⟨t2, i2, f2, 0⟩] scope pos) (some (.Name y py)) spos.line C.env = pure true) (hfold : ∀ env x, foldedSetIterable i1 env x = pure x := by intro _ _; rfl) (hfold2 : ∀ env x, foldedSetIterable i2 env x = pure x := by intro _ _; rfl) :
    ExD prog w h₀ C ρ (.Assign [.Name y py] (.ListComp elt [⟨t1, i1, f1, 0⟩, ⟨t2, i2, f2, 0⟩] scope pos) spos) (.next (put ρ y (.list (xs.flatMap fun x => (ys x).flatMap (f x))))) := fun s H => by
  obtain ⟨p1, p2, p3⟩ := scope_parts hsc hok
  rw [exec_Assign_Name_used _ _ _ _ hsw]
  refine wpAny_bind (wpAny_standAt (wpAny_bind ?_))
  show wpAny _ C.A (do let _ ← comprehension (.ListComp elt [⟨t1, i1, f1, 0⟩, ⟨t2, i2, f2, 0⟩] scope pos) scope C.env _ (newList []) false (eval i1 C.env) (some (assign (.Name y py) C.env))) _ _ s
  refine wpAny_bind (wpAny_mono (comp_core (use := some (assign (.Name y py) C.env)) (E := no) (Q := fun _ s' => KeepsW C.W s s' ∧ Sat h₀ C (put ρ y (.list (xs.flatMap fun x => (ys x).flatMap (f x)))) s') hsrc hit p1 p2 p3 (hfold _) (loop2 xs inj ys inj2 f hsc hsz hbody hfold2) H ?_)
    (fun _ s' z => wpAny_pure (wpAny_pure ⟨z.1, rfl, z.2⟩)) fun _ _ z => z)
  intro v s' L k SL iL wL nL lne cne n0 nX nL0
  refine wpAny_assign_Name (wpAny_mono (store_name (C := C.also L) (d := .list (xs.flatMap fun x => (ys x).flatMap (f x))) hy SL iL) (fun _ s'' z => ⟨z.1, fun h' hs => ?_⟩) fun _ _ z => z)
  have kw : KeepsW (· = L) s'' { s'' with heap := h' } := ⟨h', _, rfl, Nat.le_refl _, fun b o nb e => (hs.2 b nb).trans e⟩
  refine ⟨?_, z.2.drop H.good nX lne cne n0 kw⟩
  obtain ⟨h1, t1, e1, l1, k1⟩ := keepsW_trans (keepsW_of (W := C.W) k) z.1
  subst e1
  exact ⟨h', t1, rfl, l1, fun b o nb e => (hs.2 b fun q => by rw [q, nL0] at e; cases e).trans (k1 b o nb e)⟩

/-! loops -/
/-- while, from here on -/
def WhD (prog : Program) (w : World) (h₀ : Heap) (C : Cx) (ρ : Vs) (t : Expr) (body : List Stmt) (o : Out) : Prop :=
  ∀ s, Sat h₀ C ρ s → codeAny (model prog w) C.A (.whileLoop t body [] C.env) (fun r s' => match r with | .ok f => KeepsW C.W s s' ∧ OutOk h₀ C o f s' | .error _ => False) s
theorem ex_while {t : Expr} {body : List Stmt} {pos : Pos} {o : Out} (h : WhD prog w h₀ C ρ t body o) : ExD prog w h₀ C ρ (.While t body [] pos) o := fun s H =>
  wpAny_While (codeAny_mono (h s H) fun r s' z => by cases r with | ok f => exact z | error e => exact z.elim)
theorem WhD.sub {ρ' : Vs} {t : Expr} {body : List Stmt} {o : Out} (h : WhD prog w h₀ C ρ t body o) (hs : ∀ p ∈ ρ, p ∈ ρ') : WhD prog w h₀ C ρ' t body o := fun s H => h s (H.sub hs)
theorem wh_done {t : Expr} {body : List Stmt} (ht : TrD prog w h₀ C ρ t false) : WhD prog w h₀ C ρ t body (.next ρ) := fun s H => by
  refine codeAny_of_tree ?_
  show wpAny _ C.A ((whileTurn t body [] C.env).onRaise (fun x => do noteFrame x C.env; theTreesLotGoes x)) _ _ s
  refine wpAny_noted ?_
  simp only [whileTurn]
  refine wpAny_bind (ht.then H fun s₁ k₁ H₁ => ?_)
  simp only [Bool.false_eq_true, if_false]
  exact wpAny_bind (wpAny_execs_nil (wpAny_pure ⟨keepsW_of k₁, rfl, H₁⟩))
theorem wh_turn {t : Expr} {body : List Stmt} {ρ' : Vs} {o : Out} (ht : TrD prog w h₀ C ρ t true) (hb : ExsD prog w h₀ C ρ body (.next ρ')) (hr : WhD prog w h₀ C ρ' t body o) : WhD prog w h₀ C ρ t body o := fun s H => by
  refine codeAny_of_tree ?_
  show wpAny _ C.A ((whileTurn t body [] C.env).onRaise (fun x => do noteFrame x C.env; theTreesLotGoes x)) _ _ s
  refine wpAny_noted ?_
  simp only [whileTurn]
  refine wpAny_bind (ht.then H fun s₁ k₁ H₁ => ?_)
  simp only [if_true]
  refine wpAny_bind (wpAny_mono (hb s₁ H₁) (fun f s₂ z => ?_) fun _ _ z => z.elim)
  obtain ⟨k₂, rfl, H₂⟩ := z
  refine wpAny_pure ⟨rfl, codeAny_mono (hr s₂ H₂) fun r s' y => ?_⟩
  cases r with
  | ok f => exact ⟨keepsW_trans (keepsW_of k₁) (keepsW_trans k₂ y.1), y.2⟩
  | error e => exact y.elim

/-- for, from here on: ds is what is left -/
def ForD (prog : Program) (w : World) (h₀ : Heap) (C : Cx) (ρ : Vs) (target : Expr) (body : List Stmt) (ds : List D) (o : Out) : Prop :=
  ∀ I s, Good h₀ C → ¬ C.X I → h₀.get? I = none → Sat h₀ (C.also I) ρ s → ItAt prog w C.A (C.also I).X I ds s.heap →
    codeAny (model prog w) C.A (.forLoop target (.ref I) body [] C.env) (fun r s' => match r with | .ok f => KeepsW (fun a => C.W a ∨ a = I) s s' ∧ OutOk h₀ C o f s' | .error _ => False) s
theorem ForD.sub {ρ' : Vs} {t : Expr} {body : List Stmt} {ds : List D} {o : Out} (h : ForD prog w h₀ C ρ t body ds o) (hs : ∀ p ∈ ρ, p ∈ ρ') : ForD prog w h₀ C ρ' t body ds o := fun I s G a b H T => h I s G a b (H.sub hs) T
theorem ex_for_at {target iter : Expr} {body : List Stmt} {pos : Pos} {src : D} {ds : List D} {o : Out} {s : Shared} (H : Sat h₀ C ρ s) (hs : wpAny (model prog w) C.A (eval iter C.env) (fun v s' => Keeps s s' ∧ Is C.X s'.heap v src) no s) (hi : IterD src ds) (h : ForD prog w h₀ C ρ target body ds o)
    (hfold : ∀ env x, foldedSetIterable iter env x = pure x := by intro _ _; rfl) : wpAny (model prog w) C.A (exec (.For target iter body [] pos) C.env) (fun f s' => KeepsW C.W s s' ∧ OutOk h₀ C o f s') no s := by
  refine wpAny_For (wpAny_mono hs (fun v s₁ z => ?_) fun _ _ z => z) (hfold _)
  obtain ⟨k₁, i₁⟩ := z
  have H₁ := H.keeps k₁
  refine (wpAny_mono (iter_D (prog := prog) (w := w) H.good.hh H₁.fresh hi i₁) (fun it s₂ z => ?_) fun _ _ z => z.elim)
  obtain ⟨rfl, ⟨ob, rfl⟩, T⟩ := z
  have T := T C.A (C.also s₁.heap.objs.size).X H.good.hh fun a z => z.imp id fun z => by rw [z]; exact Nat.le_refl _
  obtain ⟨oI, fs, eI, hdI⟩ := T.obj
  have hof : ob.isFreed = false := by
    have := Heap.get?_some_iff.mp eI
    have e2 : (s₁.heap.push ob).objs[s₁.heap.objs.size]? = some ob := by cases h : s₁.heap; simp [Heap.push]
    rw [show ({ s₁ with heap := s₁.heap.push ob } : Shared).heap.objs[s₁.heap.objs.size]? = some ob from e2] at this
    obtain ⟨q, q'⟩ := this
    cases q; exact q'
  refine codeAny_mono (h s₁.heap.objs.size _ H.good H₁.fresh (H₁.old0 (Nat.le_refl _)) (H₁.also ob hof) T) fun r s' z => ?_
  cases r with
  | error e => exact z.elim
  | ok f =>
    refine ⟨?_, z.2⟩
    obtain ⟨h', t', rfl, l', kk⟩ := z.1
    obtain ⟨h1, t1, rfl, l1, k1⟩ := k₁
    refine ⟨h', t', rfl, Nat.le_trans l1 l', fun b o' nb e => kk b o' ?_ (Heap.get?_push_of_some _ (k1 b o' e))⟩
    rintro (q | q)
    · exact nb q
    · have := Heap.lt_size (k1 b o' e); rw [q] at this; exact Nat.lt_irrefl _ this
theorem ex_for {target iter : Expr} {body : List Stmt} {pos : Pos} {src : D} {ds : List D} {o : Out} (hs : EvD prog w h₀ C ρ iter src) (hi : IterD src ds) (h : ForD prog w h₀ C ρ target body ds o)
    (hfold : ∀ env x, foldedSetIterable iter env x = pure x := by intro _ _; rfl) : ExD prog w h₀ C ρ (.For target iter body [] pos) o := fun s H => ex_for_at H (hs s H) hi h hfold
theorem for_nil {target : Expr} {body : List Stmt} : ForD prog w h₀ C ρ target body [] (.next ρ) := fun I s G nX n0 H T => by
  refine codeAny_of_tree ?_
  show wpAny _ C.A ((forTurn target (.ref I) body [] C.env).onRaise (fun x => do noteFrame x C.env; theTreesLotGoes x)) _ _ s
  refine wpAny_noted ?_
  simp only [forTurn]
  refine wpAny_bind (wpAny_standAt (wpAny_bind (wpAny_onRaise (wpAny_mono (T.next (.inr rfl)) (fun r s₁ z => ?_) fun _ _ z => z.elim))))
  obtain ⟨k₁, rfl⟩ := z
  obtain ⟨o, fs, ho, hd⟩ := T.obj
  refine wpAny_pure ⟨rfl, codeAny_block (wpAny_execs_nil ⟨keepsW_mono (fun a q => .inr q) k₁, rfl, H.alsoOut G nX ho (by rw [hd]; intro _ _ q; cases q) (by rw [hd]; intro _ q; cases q) n0 k₁⟩)⟩
theorem for_head {target : Expr} {body : List Stmt} {d : D} {ds : List D} {ρ' : Vs} {o o' : Out} (ha : ∀ I, AsgD prog w h₀ (C.also I) ρ target d ρ') (hb : ∀ I, ExsD prog w h₀ (C.also I) ρ' body o')
    (hk : match o' with
      | .next ρ'' => ForD prog w h₀ C ρ'' target body ds o
      | .brk ρ'' => o = .next ρ''
      | .ret d => o = .ret d) : ForD prog w h₀ C ρ target body (d :: ds) o := fun I s G nX n0 H T => by
  have hWI : ¬ C.W I := fun q => nX (G.sub _ q)
  refine codeAny_of_tree ?_
  show wpAny _ C.A ((forTurn target (.ref I) body [] C.env).onRaise (fun x => do noteFrame x C.env; theTreesLotGoes x)) _ _ s
  refine wpAny_noted ?_
  simp only [forTurn]
  refine wpAny_bind (wpAny_standAt (wpAny_bind (wpAny_onRaise (wpAny_mono (T.next (.inr rfl)) (fun r s₁ z => ?_) fun _ _ z => z.elim))))
  obtain ⟨k₁, v, rfl, i₁, T₁⟩ := z
  obtain ⟨ob, fs, ho, hd⟩ := T.obj
  obtain ⟨o₁, fs₁, ho₁, hd₁⟩ := T₁.obj
  have H₁ : Sat h₀ (C.also I) ρ s₁ := H.other ho (by rw [hd]; intro _ _ q; cases q) (by rw [hd]; intro _ q; cases q) (.inr rfl) n0 k₁ ⟨_, ho₁⟩
  refine wpAny_bind (T₁.owned target v ?_)
  refine wpAny_bind (wpAny_mono (ha I v s₁ H₁ i₁) (fun _ s₂ z => ?_) fun _ _ z => z.elim)
  obtain ⟨k₂, H₂⟩ := z
  refine wpAny_bind (wpAny_mono (hb I s₂ H₂) (fun f s₃ z => ?_) fun _ _ z => z.elim)
  obtain ⟨k₃, z⟩ := z
  have k13 : KeepsW C.W s₁ s₃ := keepsW_trans k₂ k₃
  have kall : KeepsW (fun a => C.W a ∨ a = I) s s₃ := keepsW_trans (keepsW_mono (fun a q => .inr q) k₁) (keepsW_mono (fun a q => .inl q) k13)
  cases o' with
  | next ρ'' =>
    obtain ⟨rfl, H₃⟩ := z
    refine wpAny_pure ⟨rfl, codeAny_mono (hk I s₃ G nX n0 H₃ (T₁.keep fun b o hb e => keepsW_get k13 (fun q => ?_) e)) fun r s' y => ?_⟩
    · rcases hb with rfl | hb
      · exact hWI q
      · exact hb (.inl (G.sub _ q))
    · cases r with
      | ok f => exact ⟨keepsW_trans kall y.1, y.2⟩
      | error e => exact y.elim
  | brk ρ'' =>
    obtain ⟨rfl, H₃⟩ := z
    subst hk
    exact wpAny_pure ⟨kall, rfl, H₃.also' G⟩
  | ret d' =>
    obtain ⟨u, rfl, i⟩ := z
    subst hk
    exact wpAny_pure ⟨kall, u, rfl, i.less fun a q => .inl q⟩
end
end Mine

set_option Elab.async false
set_option linter.unusedVariables false
set_option linter.unusedSimpArgs false
namespace Mine
section
variable {prog : Program} {w : World} {h₀ : Heap} {C : Cx} {ρ : Vs}

/-- a frame of a function with that table of names -/
structure InFn (C : Cx) (sc : Scope) (n : Nat) : Prop where
  room : Room C.A n
  scp : C.env.scope = sc
  sto : ∀ x, ownIn sc x = true → Stores C x
theorem InFn.also {sc : Scope} {n : Nat} (h : InFn C sc n) (I : Addr) : InFn (C.also I) sc n := ⟨h.room, h.scp, h.sto⟩

theorem bindL_keep {kind : Str → Option NameKind} : ∀ (l : List (Str × Value)) (m : Str → Option Value) (x : Str), (∀ p ∈ l, p.1 ≠ x) → bindL kind l m x = m x
  | [], m, x, _ => rfl
  | (n, v) :: r, m, x, h => by
    unfold bindL
    rw [bindL_keep r _ x fun p hp => h p (.tail _ hp)]
    split
    · exact if_neg fun q : x = n => h (n, v) (.head _) q.symm
    · rfl
theorem bindL_get {kind : Str → Option NameKind} : ∀ (l : List (Str × Value)) (m : Str → Option Value) (x : Str) (v : Value), (l.map (·.1)).Nodup → (x, v) ∈ l → kind x = some .local → bindL kind l m x = some v
  | [], m, x, v, _, h, _ => by simp at h
  | (n, u) :: r, m, x, v, hn, h, hk => by
    simp only [List.map_cons, List.nodup_cons] at hn
    unfold bindL
    rcases List.mem_cons.mp h with q | q
    · cases q
      rw [bindL_keep r _ n fun p hp e => hn.1 (e ▸ List.mem_map_of_mem hp), if_pos hk, if_pos rfl]
    · exact bindL_get r _ x v hn.2 q hk
theorem bindC_keep {kind : Str → Option NameKind} : ∀ (l : List (Str × Value)) (m : Str → Option Value) (x : Str), (∀ p ∈ l, p.1 ≠ x) → bindC kind l m x = m x
  | [], m, x, _ => rfl
  | (n, v) :: r, m, x, h => by
    unfold bindC
    rw [bindC_keep r _ x fun p hp => h p (.tail _ hp)]
    split
    · rfl
    · exact if_neg fun q : x = n => h (n, v) (.head _) q.symm
theorem bindC_get {kind : Str → Option NameKind} : ∀ (l : List (Str × Value)) (m : Str → Option Value) (x : Str) (v : Value), (l.map (·.1)).Nodup → (x, v) ∈ l → kind x = some .cell → bindC kind l m x = some v
  | [], m, x, v, _, h, _ => by simp at h
  | (n, u) :: r, m, x, v, hn, h, hk => by
    simp only [List.map_cons, List.nodup_cons] at hn
    unfold bindC
    rcases List.mem_cons.mp h with q | q
    · cases q
      rw [bindC_keep r _ n fun p hp e => hn.1 (e ▸ List.mem_map_of_mem hp), if_neg (by rw [hk]; intro z; cases z), if_pos rfl]
    · exact bindC_get r _ x v hn.2 q hk

theorem zip_isAll {X : Addr → Prop} {h : Heap} : ∀ {xs : List Str} {vs : List Value} {ds : List D}, IsAll X h vs ds → ∀ p ∈ xs.zip ds, ∃ v, (p.1, v) ∈ xs.zip vs ∧ Is X h v p.2
  | [], _, _, _, p, hp => by simp at hp
  | x :: xs, _, _, .nil, p, hp => by simp at hp
  | x :: xs, _, _, .cons i r, p, hp => by
    simp only [List.zip_cons_cons, List.mem_cons] at hp
    rcases hp with rfl | hp
    · exact ⟨_, by simp, i⟩
    · obtain ⟨v, hv, i'⟩ := zip_isAll r p hp
      exact ⟨v, by simp [hv], i'⟩

def fnOk (sc : Scope) (xs : List Str) : Bool := sc.kind == .function && !sc.isCoroutine && !sc.isGenerator && xs.all (fun x => ownIn sc x) && decide xs.Nodup && sc.names.all (fun p => p.2 != .free)

/-- a frame for one argument: a token is used up -/
theorem newEnv_one {M : Model} {A : Around} {E : Value → Shared → Prop} {s : Shared} {scope : Scope} {globals : Addr} {x : Str} {v : Value} {qual : Str} {func : Option Addr} {code : Value} {builtins : Addr} {Q : Env → Shared → Prop} (hk : scope.kind = .function) (hx : scope.names.lookup x = some .local)
    (hQ : ∀ env, env = newEnv scope s.heap.objs.size globals (cellsFrom (s.heap.objs.size + 1) scope.names []) qual func code none builtins →
      ∀ s', InCallC s env.locals (bindL env.kindOf [(x, v)] fun _ => none) env.cells (bindC env.kindOf [(x, v)] fun _ => none) s' → @LE.le Nat _ 1 s'.toks → Q env s') :
    wpAny M A (newFunctionEnv scope globals [] [(x, v)] qual func code none builtins) Q E s := by
  simp only [newFunctionEnv, Option.isSome_none, Bool.false_eq_true, if_false]
  refine wpAny_bind (wpAny_alloc (wpAny_bind (wpAny_layCells _ (fun name kind cells => by cases hkc : kind == NameKind.cell <;> simp [hkc]) _ _ _ _ ?_)))
  have ok := cellsFrom_ok scope.names (s.heap.push { cls := .type "frame", data := .dict #[] }) (s.heap.objs.size + 1) [] ⟨fun _ _ hm => (nomatch hm), List.Pairwise.nil⟩ (by rw [Heap.size_push]; exact Nat.le_refl _)
  rw [Heap.size_push] at ok
  rw [show ({ s with heap := s.heap.push { cls := .type "frame", data := .dict #[] } } : Shared).heap.objs.size = s.heap.objs.size + 1 from Heap.size_push ..]
  obtain ⟨env, henv⟩ : ∃ env, newEnv scope s.heap.objs.size globals (cellsFrom (s.heap.objs.size + 1) scope.names []) qual func code none builtins = env := ⟨_, rfl⟩
  have e1 : env.scope = scope := by rw [← henv]; rfl
  have e2 : env.locals = s.heap.objs.size := by rw [← henv]; rfl
  have e3 : env.cells = cellsFrom (s.heap.objs.size + 1) scope.names [] := by rw [← henv]; rfl
  have hl : env.kindOf x = some .local := by unfold Env.kindOf; rw [e1]; exact hx
  let s2 : Shared := { s with heap := pushCells (s.heap.push { cls := .type "frame", data := .dict #[] }) scope.names }
  have x0 : InCallC s env.locals (fun _ => none) env.cells (fun _ => none) s2 := by
    rw [e2, e3]
    exact ⟨⟨⟨_, _, rfl⟩, (Heap.Ns.new s.heap (.type "frame")).keeps (pushCells_keeps _ _), fun b o e => pushCells_keeps _ _ b o (Heap.get?_push_of_some _ e), Nat.le_refl _⟩, fun n c hc => (ok.empty n c (mem_of_lookup hc)).1, ok.apart, fun n c hm => (ok.empty n c hm).2⟩
  refine wpAny_bind ?_
  show wpAny M A (forIn [(x, v)] ⟨⟩ fun (p : Str × Value) (_ : PUnit) => (do storeName (newEnv scope s.heap.objs.size globals (cellsFrom (s.heap.objs.size + 1) scope.names []) qual func code none builtins) p.1 p.2; pure (.yield ⟨⟩) : Sem (ForInStep PUnit)))
    (fun _ s' => wpAny M A (pure (newEnv scope s.heap.objs.size globals (cellsFrom (s.heap.objs.size + 1) scope.names []) qual func code none builtins)) Q E s') E s2
  rw [henv]
  rw [List.forIn_cons]
  refine wpAny_bind (wpAny_bind (wpAny_storeName_local hl x0.toInCall.ns (fun h' hn' hs' => wpAny_pure ?_) (by rw [e1, hk]; rfl)))
  dsimp only
  rw [List.forIn_nil]
  refine wpAny_pure (wpAny_pure (hQ env henv.symm _ ?_ (Nat.le_add_left _ _)))
  have e4 : bindL env.kindOf [(x, v)] (fun _ => none) = fun y => if y = x then some v else none := by unfold bindL bindL; rw [if_pos hl]
  have e5 : bindC env.kindOf [(x, v)] (fun _ => none) = fun _ => none := by unfold bindC bindC; rw [if_pos hl]
  rw [e4, e5]
  refine ⟨⟨?_, hn', fun b o e => ?_, x0.toInCall.fresh⟩, fun k c hc => ?_, x0.apart, x0.above⟩
  · obtain ⟨h₁, tk, e⟩ := x0.toInCall.same
    exact ⟨h', _, rfl⟩
  · exact hs'.extBut b o (Nat.ne_of_lt (Nat.lt_of_lt_of_le (Heap.lt_size e) x0.toInCall.fresh)) (x0.toInCall.keep b o e)
  · exact (x0.cell k c hc).sameBut hs' (Nat.ne_of_gt (x0.above k c (mem_of_lookup hc)))

theorem fn_code {f : Addr} {ob : Obj} {fd : FuncData} {body : List Stmt} {xs : List Str} {n : Nat} {ds : List D} {A : Around} {X : Addr → Prop} {s : Shared} {vs : List Value} {R₀ : Result → Shared → Prop} (ho : h₀.get? f = some ob) (hdata : ob.data = .func fd) (hcd : h₀.CodeRec fd.code fd.qualname) (hlim : h₀.NoLimit)
    (hbody : fd.body = .stmts body) (hclo : fd.closure = []) (hglob : fd.globals = mainGlobals) (hbi : fd.builtins = builtinsNs) (hlen : xs.length = ds.length) (hbind : ∀ vs : List Value, vs.length = xs.length → bindArgs fd ⟨vs, []⟩ = pure (xs.zip vs)) (hok : fnOk fd.scope xs = true)
    (R : Room A (n + 1)) (gens : s.gens = #[]) (htok : @LE.le Nat _ 1 s.toks ∨ ∃ x v, xs.zip vs = [(x, v)] ∧ fd.scope.names.lookup x = some .local) (top : ∀ b o, h₀.get? b = some o → s.heap.get? b = some o) (alloc : ∀ a, X a → ∃ o, s.heap.get? a = some o) (i : IsAll X s.heap vs ds)
    (h : ∀ C s₁, InFn C fd.scope n → Sat h₀ C (xs.zip ds) s₁ → Keeps s s₁ → (∀ a, C.W a → s.heap.get? a = none) → (∀ a, C.X a ↔ (X a ∨ C.W a)) →
      wpAny (model prog w) C.A (execs body C.env) (fun f s' => R₀ (.ok (.ret (match f with | .ret v => v | _ => .none))) s') no s₁) : codeAny (model prog w) A (.call (.ref f) ⟨vs, []⟩) R₀ s := by
  unfold fnOk at hok
  simp only [Bool.and_eq_true, beq_iff_eq, Bool.not_eq_true', List.all_eq_true, decide_eq_true_eq, bne_iff_ne, ne_eq] at hok
  obtain ⟨⟨⟨⟨⟨hk, hco⟩, hgen⟩, hown⟩, hnd⟩, hfr⟩ := hok
  have hlv : vs.length = xs.length := by rw [i.length, hlen]
  have hnames : (xs.zip vs).map (·.1) = xs := List.map_fst_zip (by omega)
  have hmem : ∀ p ∈ xs.zip vs, p.1 ∈ xs := fun p hp => by rw [← hnames]; exact List.mem_map_of_mem hp
  have kinds : ∀ x, ownIn fd.scope x = true → fd.scope.names.lookup x = some .local ∨ fd.scope.names.lookup x = some .cell := fun x hx => by
    unfold ownIn at hx
    simpa only [Bool.or_eq_true, beq_iff_eq] using hx
  refine codeAny_call_function (by have := R.depth; omega) (top _ _ ho) hdata hco hgen hbody (hcd.keeps top) ?_
  rw [hbind vs hlv, hclo]
  refine wpAny_pure (wpAny_with_toks (n := s.toks) (Nat.le_refl _) ?_)
  suffices key : ∀ env, env = newEnv fd.scope s.heap.objs.size fd.globals (cellsFrom (s.heap.objs.size + 1) fd.scope.names []) (fd.qualname ++ ".<locals>.") (some f) fd.code none fd.builtins → ∀ s', InCallC s env.locals (bindL env.kindOf (xs.zip vs) fun _ => none) env.cells (bindC env.kindOf (xs.zip vs) fun _ => none) s' → (@LE.le Nat _ 1 s.toks ∨ @LE.le Nat _ 1 s'.toks) → @LE.le Nat _ s.toks s'.toks → (s'.heap.NoLimit ∧ codeAny (model prog w) A (.func body env) R₀ s') from by
    rcases htok with h1 | ⟨x, v, e, hx⟩
    · refine wpAny_newFunctionEnv_cells hk (fun p hp => ?_) fun env he s₁ Y htk => key env he s₁ Y (.inl h1) htk
      rcases kinds _ (hown _ (hmem p hp)) with q | q
      · exact .inl q
      · exact .inr ⟨q, cellsFrom_has _ _ _ _ (.inl (lookup_mem q))⟩
    · rw [e] at key ⊢
      exact newEnv_one hk hx fun env he s₁ Y h2 htk => key env he s₁ Y (.inr h2) htk
  intro env he s₁ Y htok htk
  generalize hL : s.heap.objs.size = L at he
  have henv : callEnvC fd L f = env := he.symm
  have escp : env.scope = fd.scope := by rw [← henv]; rfl
  have eloc : env.locals = L := by rw [← henv]; rfl
  have ecell : env.cells = cellsFrom (L + 1) fd.scope.names [] := by rw [← henv]; rfl
  have ekind : ∀ x, env.kindOf x = fd.scope.names.lookup x := fun x => by unfold Env.kindOf; rw [escp]
  let W' : Addr → Prop := fun a => a = L ∨ ∃ x, env.cells.lookup x = some a
  let C : Cx := ⟨A.deeper env, env, fun a => X a ∨ W' a, W'⟩
  have wge : ∀ a, W' a → s.heap.get? a = none := fun a q => by
    refine get_none_of_le ?_
    rcases q with rfl | ⟨x, e⟩
    · exact Nat.le_of_eq hL
    · have := Y.above _ _ (mem_of_lookup e)
      rw [eloc] at this
      rw [hL]; exact Nat.le_of_lt this
  have w0 : ∀ a, W' a → h₀.get? a = none := fun a q => by
    cases e : h₀.get? a with
    | none => rfl
    | some o => have := top a o e; rw [wge a q] at this; cases this
  have G : Good h₀ C := by
    refine ⟨?_, ?_, ?_, R.hh, fun a q => .inr q, w0, .inl eloc, fun x y c e e' => name_of_addr Y.apart (mem_of_lookup e) (mem_of_lookup e'), fun x hx => ?_⟩
    · show env.scope.kind = _; rw [escp]; exact hk
    · show env.globals = _; rw [← henv]; exact hglob
    · show env.builtins = _; rw [← henv]; exact hbi
    · show (env.cells.lookup x).isSome = true
      rw [ecell]
      refine cellsFrom_has _ _ _ _ (.inl ?_)
      rcases hx with hx | hx
      · have : env.kindOf x = some .cell := hx
        rw [ekind] at this; exact lookup_mem this
      · have : env.kindOf x = some .free := hx
        rw [ekind] at this
        exact absurd rfl (hfr _ (lookup_mem this))
  have I : InFn C fd.scope n := by
    refine ⟨⟨R.hh, ?_, ?_⟩, escp, fun x hx => ?_⟩
    · have := R.depth; show A.depth + 1 + n < _; omega
    · have := R.units; show A.units + 3 + 100 + 4 * n < _; omega
    · rcases kinds x hx with q | q
      · exact .inl ((ekind x).trans q)
      · obtain ⟨c, e⟩ := Option.isSome_iff_exists.mp (cellsFrom_has x fd.scope.names (L + 1) [] (.inl (lookup_mem q)))
        rw [← ecell] at e
        exact .inr ⟨(ekind x).trans q, c, e, .inr ⟨x, e⟩⟩
  obtain ⟨h', tk, es, kk⟩ := Y.done
  have k₁ : Keeps s s₁ := keeps_of0 ⟨h', tk, es, kk⟩ htk
  have S : Sat h₀ C (xs.zip ds) s₁ := by
    refine ⟨G, by rw [es]; exact gens, htok.elim (fun z => Nat.le_trans z htk) id, fun b o e => keeps_get k₁ (top b o e), fun a xa => ?_, ⟨_, Y.toInCall.ns⟩, fun x c e => ⟨_, Y.cell x c e⟩, fun p hp => ?_⟩
    · rcases xa with xa | rfl | ⟨x, e⟩
      · obtain ⟨o, e⟩ := alloc a xa; exact ⟨o, keeps_get k₁ e⟩
      · obtain ⟨o, _, _, e, _⟩ := Y.toInCall.ns; rw [eloc] at e; exact ⟨o, e⟩
      · obtain ⟨o, e', _⟩ := Y.cell x a e; exact ⟨o, e'⟩
    · obtain ⟨v, hv, iv⟩ := zip_isAll i p hp
      refine ⟨v, iv.mono fun b o nb e => ⟨fun z => z.elim nb fun z => (by rw [wge b z] at e; cases e), keeps_get k₁ e⟩, ?_⟩
      have hz : ((xs.zip vs).map (·.1)).Nodup := by rw [hnames]; exact hnd
      rcases kinds p.1 (hown _ (hmem _ hv)) with q | q
      · exact .inl ⟨(ekind _).trans q, _, Y.toInCall.ns, bindL_get _ _ _ _ hz hv ((ekind _).trans q)⟩
      · obtain ⟨c, e⟩ := Option.isSome_iff_exists.mp (cellsFrom_has p.1 fd.scope.names (L + 1) [] (.inl (lookup_mem q)))
        rw [← ecell] at e
        refine .inr ⟨.inl ((ekind _).trans q), c, e, ?_⟩
        have := Y.cell p.1 c e
        rwa [bindC_get _ _ _ _ hz hv ((ekind _).trans q)] at this
  exact ⟨hlim.keeps fun b o e => keeps_get k₁ (top b o e), codeAny_func (wpAny_mono (h C s₁ I S k₁ wge fun a => Iff.rfl) (fun fl s' z => z) fun _ _ z => z.elim)⟩

theorem fn_intro {f : Addr} {ob : Obj} {fd : FuncData} {body : List Stmt} {xs : List Str} {n : Nat} {ds : List D} {d : D} (ho : h₀.get? f = some ob) (hdata : ob.data = .func fd) (hcd : h₀.CodeRec fd.code fd.qualname) (hlim : h₀.NoLimit)
    (hbody : fd.body = .stmts body) (hclo : fd.closure = []) (hglob : fd.globals = mainGlobals) (hbi : fd.builtins = builtinsNs) (hlen : xs.length = ds.length) (hbind : ∀ vs : List Value, vs.length = xs.length → bindArgs fd ⟨vs, []⟩ = pure (xs.zip vs)) (hok : fnOk fd.scope xs = true)
    (h : ∀ C, InFn C fd.scope n → ExsD prog w h₀ C (xs.zip ds) body (.ret d)) : FnD prog w h₀ f (n + 1) ds d := fun A X s vs R gens htok top alloc i => by
  refine wpAny_call (fn_code ho hdata hcd hlim hbody hclo hglob hbi hlen hbind hok R gens (.inl htok) top alloc i fun C s₁ I S k₁ wge hX => ?_)
  refine wpAny_mono (h C I s₁ S) (fun fl s' z => ?_) fun _ _ z => z
  obtain ⟨k₂, v, rfl, iv⟩ := z
  refine ⟨?_, iv.less fun a q => (hX a).mpr (.inl q)⟩
  obtain ⟨h2, t2, e2, l2, k2⟩ := keepsW_trans (keepsW_of (W := C.W) k₁) k₂
  exact ⟨h2, t2, e2, l2, fun b o e => k2 b o (fun q => by rw [wge b q] at e; cases e) e⟩
end
end Mine

set_option Elab.async false
set_option linter.unusedVariables false
set_option linter.unusedSimpArgs false
namespace Mine
open Builtin Builtin.Str

def sliceL {α : Type} (l : List α) (lo hi : Option Int) : List α :=
  (l.drop (lo.elim 0 (clipAt l.length))).take (hi.elim l.length (clipAt l.length) - lo.elim 0 (clipAt l.length))
theorem sliceL_length {α : Type} (l : List α) (lo hi : Option Int) : (sliceL l lo hi).length ≤ l.length := by
  unfold sliceL; simp only [List.length_take, List.length_drop]; omega

theorem IsAll.slice {X : Addr → Prop} {h : Heap} {vs : List Value} {ds : List D} (i : IsAll X h vs ds) (lo hi : Option Int) : IsAll X h (sliceL vs lo hi) (sliceL ds lo hi) := by
  unfold sliceL
  rw [i.length]
  exact (i.drop _).take _

theorem strIdx_eq (x : Str) (lo hi : Option Int) : strSliceIndices lo hi 1 x.length = (List.range (hi.elim x.length (clipAt x.length) - lo.elim 0 (clipAt x.length))).map (lo.elim 0 (clipAt x.length) + ·) := by
  have e : strSliceIndices lo hi 1 x.length = sliceRange ((lo.elim 0 (clipAt x.length) : Nat) : Int) ((hi.elim x.length (clipAt x.length) : Nat) : Int) 1 := by
    unfold strSliceIndices
    simp only [show (1 : Int) > 0 by decide, if_true]
    cases lo <;> cases hi <;> simp [clipAt_cast]
  rw [e, sliceRange_one]
theorem seqIndex_nat {k : Int} {n : Nat} (h0 : 0 ≤ k) (h : k.toNat < n) : seqIndex? k n = some k.toNat := by
  unfold seqIndex?
  simp only [show ¬ k < 0 by omega, if_false]
  rw [if_pos (by simp; omega)]
theorem strSlice_whole (x : Str) (lo hi : Option Int) (h : (strSliceIndices lo hi 1 x.length).length = x.length) : sliceL x.cps.toList lo hi = x.cps.toList := by
  rw [strIdx_eq, List.length_map, List.length_range] at h
  unfold sliceL
  have hl : x.cps.toList.length = x.length := by simp [Str.length]
  rw [hl]
  have hu : hi.elim x.length (clipAt x.length) ≤ x.length := by
    cases hi with
    | none => exact Nat.le_refl _
    | some i => simp only [Option.elim]; unfold clipAt; omega
  rcases Nat.eq_zero_or_pos x.length with z | z
  · have : x.cps.toList = [] := List.eq_nil_of_length_eq_zero (by omega)
    rw [this]; simp
  · have : lo.elim 0 (clipAt x.length) = 0 := by omega
    rw [this] at h ⊢
    rw [h, List.drop_zero]
    exact List.take_of_length_le (by omega)
theorem strSlice_eq (x : Str) (lo hi : Option Int) : (strSliceIndices lo hi 1 x.length).filterMap (x.cps[·]?) = sliceL x.cps.toList lo hi := by
  rw [strIdx_eq, pick_run]
  unfold sliceL
  simp only [Str.length, Array.length_toList]

section
variable {prog : Program} {w : World} {h₀ : Heap} {C : Cx} {ρ : Vs}

/-! items -/
theorem ev_item_list {v i : Expr} {pos : Pos} {ds : List D} {k : Int} {d : D} (hv : EvD prog w h₀ C ρ v (.list ds)) (hi : EvD prog w h₀ C ρ i (.int k)) (h0 : 0 ≤ k) (hfit : k < 2 ^ 63) (hd : ds[k.toNat]? = some d)
    (hs : ∀ o i', subscripted i false o i' = operate [o, i'] (getItem o i') := by intro _ _; rfl) : EvD prog w h₀ C ρ (.Subscript v i pos) d := fun s H =>
  Subscript_ (hv.then H fun o s₁ k₁ H₁ i₁ => hi.then H₁ fun iv s₂ k₂ H₂ i₂ => by
    obtain ⟨a, vs, n, rfl, hX, ho, hall⟩ := (i₁.keeps k₂).list_inv
    obtain ⟨t, rfl⟩ := i₂.int_inv
    obtain ⟨x, ex, ix⟩ := hall.get hd
    exact tail_any (isList_of ho).typeIs slot_list_getitem.lookup (wpAny_getItem_list (isList_of ho) h0 hfit (by simpa using ex) ⟨keeps_trans k₁ k₂, ix⟩) (hs _ _))
theorem ev_item_neg {v i : Expr} {pos : Pos} {ds : List D} {k : Int} {d : D} (hv : EvD prog w h₀ C ρ v (.list ds)) (hi : EvD prog w h₀ C ρ i (.int k)) (h0 : k < 0) (h1 : -(ds.length : Int) ≤ k) (hfit : -(2 ^ 63) ≤ k) (hd : ds[(k + ds.length).toNat]? = some d)
    (hs : ∀ o i', subscripted i false o i' = operate [o, i'] (getItem o i') := by intro _ _; rfl) : EvD prog w h₀ C ρ (.Subscript v i pos) d := fun s H =>
  Subscript_ (hv.then H fun o s₁ k₁ H₁ i₁ => hi.then H₁ fun iv s₂ k₂ H₂ i₂ => by
    obtain ⟨a, vs, n, rfl, hX, ho, hall⟩ := (i₁.keeps k₂).list_inv
    obtain ⟨t, rfl⟩ := i₂.int_inv
    obtain ⟨x, ex, ix⟩ := hall.get hd
    rw [← hall.length] at h1 ex
    exact tail_any (isList_of ho).typeIs slot_list_getitem.lookup (wpAny_getItem_list_neg (isList_of ho) h0 (by simpa using h1) hfit (by simpa using ex) ⟨keeps_trans k₁ k₂, ix⟩) (hs _ _))
theorem ev_item_tup {v i : Expr} {pos : Pos} {ds : List D} {k : Int} {d : D} (hv : EvD prog w h₀ C ρ v (.tup ds)) (hi : EvD prog w h₀ C ρ i (.int k)) (h0 : 0 ≤ k) (hfit : k < 2 ^ 63) (hd : ds[k.toNat]? = some d)
    (hs : ∀ o i', subscripted i false o i' = operate [o, i'] (getItem o i') := by intro _ _; rfl) : EvD prog w h₀ C ρ (.Subscript v i pos) d := fun s H =>
  Subscript_ (hv.then H fun o s₁ k₁ H₁ i₁ => hi.then H₁ fun iv s₂ k₂ H₂ i₂ => by
    obtain ⟨a, vs, n, rfl, hX, ho, hall⟩ := (i₁.keeps k₂).tup_inv
    obtain ⟨t, rfl⟩ := i₂.int_inv
    obtain ⟨x, ex, ix⟩ := hall.get hd
    have hlt : k.toNat < vs.length := by
      rcases Nat.lt_or_ge k.toNat vs.length with q | q
      · exact q
      · rw [List.getElem?_eq_none q] at ex; cases ex
    exact item_tupleT (isTup_of ho) (by omega) hfit (j := k.toNat) (seqIndex_nat h0 hlt) ex ⟨keeps_trans k₁ k₂, ix⟩ (hs _ _))
theorem ev_item_str {v i : Expr} {pos : Pos} {x : Str} {k : Int} {c : Nat} (hv : EvD prog w h₀ C ρ v (.str x)) (hi : EvD prog w h₀ C ρ i (.int k)) (h0 : 0 ≤ k) (hfit : k < 2 ^ 63) (hd : x.cps[k.toNat]? = some c)
    (hs : ∀ o i', subscripted i false o i' = operate [o, i'] (getItem o i') := by intro _ _; rfl) : EvD prog w h₀ C ρ (.Subscript v i pos) (.str ⟨#[c]⟩) := fun s H =>
  Subscript_ (hv.then H fun o s₁ k₁ H₁ i₁ => hi.then H₁ fun iv s₂ k₂ H₂ i₂ => by
    obtain ⟨t, rfl⟩ := i₁.str_inv
    obtain ⟨u, rfl⟩ := i₂.int_inv
    have hlt : k.toNat < x.length := (Array.getElem?_eq_some_iff.mp hd).1
    refine tail_any (typeIs_str _ x t) F.slot_str_getitem.lookup (PyProof.Rows.getItem_str (by simp; omega) (c := c) ?_ ⟨keeps_trans k₁ (keeps_trans k₂ (keeps_toks _ _)), .str _ _⟩) (hs _ _)
    rw [seqIndex_nat h0 hlt]
    exact hd)

/-! slices -/
def PartD (prog : Program) (w : World) (h₀ : Heap) (C : Cx) (ρ : Vs) (e : Option Expr) (k : Option Int) : Prop := match e, k with
  | none, none => True
  | some e, some k => EvD prog w h₀ C ρ e (.int k)
  | _, _ => False
theorem PartD.then {e : Option Expr} {k : Option Int} (h : PartD prog w h₀ C ρ e k) {s : Shared} (H : Sat h₀ C ρ s) {Q : Value → Shared → Prop} {E : Value → Shared → Prop}
    (f : ∀ p s', Keeps s s' → Sat h₀ C ρ s' → p.map (·.1) = k → Q (partValue p) s') : wpAny (model prog w) C.A (evalPart e C.env) Q E s := by
  match e, k, h with
  | none, none, _ => exact wpAny_pure (f none s (keeps_refl s) H rfl)
  | some e, some k, h =>
    refine EvD.then h H fun v s' k' H' i => ?_
    obtain ⟨t, rfl⟩ := i.int_inv
    exact f (some (k, t)) s' k' H' rfl
theorem isPart_of (p : Option (Int × Tok)) : IsPart (partValue p) (p.map (·.1)) := by
  cases p with
  | none => exact .none
  | some q => exact .int q.1 q.2

theorem ev_slice_list {v : Expr} {lo hi : Option Expr} {p pos : Pos} {ds : List D} {a b : Option Int} (hv : EvD prog w h₀ C ρ v (.list ds)) (ha : PartD prog w h₀ C ρ lo a) (hb : PartD prog w h₀ C ρ hi b) (hsz : ds.length ≤ sizeLine) :
    EvD prog w h₀ C ρ (.Subscript v (.Slice lo hi none p) pos) (.list (sliceL ds a b)) := fun s H =>
  Subscript_ (hv.then H fun o s₁ k₁ H₁ i₁ => wpAny_Slice (ha.then H₁ fun pl s₂ k₂ H₂ el => hb.then H₂ fun pu s₃ k₃ H₃ eu => by
    refine wpAny_pure ?_
    have k13 := keeps_trans k₂ k₃
    have kp := keeps_push s₃ { cls := .type "slice", data := .fields #[partValue pl, partValue pu, .none] }
    obtain ⟨ad, vs, n, rfl, hX, ho, hall⟩ := ((i₁.keeps k13).keeps kp).list_inv
    refine tail_any (isList_of ho).typeIs slot_list_getitem.lookup (ops := [.ref s₃.heap.objs.size, .ref ad]) ?_ rfl
    refine wpAny_getItem_list_slice (isList_of ho) (Heap.IsSliceOf.new ..) (isPart_of pl) (isPart_of pu) .none (by simp) ?_ (by rw [List.size_toArray, hall.length]; exact hsz)
    have kq := keeps_push ({ s₃ with heap := s₃.heap.push { cls := .type "slice", data := .fields #[partValue pl, partValue pu, .none] } } : Shared) { cls := .type "list", data := .seq (slicePick vs.toArray (pl.map (·.1)) (pu.map (·.1)) none) }
    refine ⟨keeps_trans k₁ (keeps_trans k13 (keeps_trans kp kq)), ?_⟩
    have hH := H₃.keeps kp
    refine .list (n := 0) (vs := sliceL vs a b) hH.fresh ?_ ((hall.keeps kq).slice a b)
    have e := Heap.get?_push_size (s₃.heap.push { cls := .type "slice", data := .fields #[partValue pl, partValue pu, .none] }) (o := { cls := .type "list", data := .seq (slicePick vs.toArray (pl.map (·.1)) (pu.map (·.1)) none) }) rfl
    refine e.trans ?_
    rw [el, eu, slicePick_plain]
    simp [listObj, sliceL]))
theorem ev_slice_str {v : Expr} {lo hi : Option Expr} {p pos : Pos} {x : Str} {a b : Option Int} (hv : EvD prog w h₀ C ρ v (.str x)) (ha : PartD prog w h₀ C ρ lo a) (hb : PartD prog w h₀ C ρ hi b) (hsz : x.length ≤ sizeLine) :
    EvD prog w h₀ C ρ (.Subscript v (.Slice lo hi none p) pos) (.str ⟨(sliceL x.cps.toList a b).toArray⟩) := fun s H =>
  Subscript_ (hv.then H fun o s₁ k₁ H₁ i₁ => wpAny_Slice (ha.then H₁ fun pl s₂ k₂ H₂ el => hb.then H₂ fun pu s₃ k₃ H₃ eu => by
    refine wpAny_pure ?_
    obtain ⟨t, rfl⟩ := i₁.str_inv
    have kp := keeps_push s₃ { cls := .type "slice", data := .fields #[partValue pl, partValue pu, .none] }
    have kk := keeps_trans k₁ (keeps_trans k₂ (keeps_trans k₃ kp))
    refine tail_any (typeIs_str _ x t) F.slot_str_getitem.lookup (ops := [.ref s₃.heap.objs.size, .str x t]) ?_ rfl
    refine wpAny_getItem_str_slice (l := pl) (u := pu) (st := none) ⟨_, Heap.get?_push_size _ rfl, rfl, rfl⟩ rfl ?_
    have hp : slicePicked x pl pu none = strSliceIndices a b 1 x.length := by unfold slicePicked; rw [el, eu]; rfl
    have hq := strSlice_eq x a b
    unfold sliceMade
    split
    · rename_i hc
      simp only [Option.map_none, Option.getD_none, beq_self_eq_true, Bool.true_and, beq_iff_eq] at hc
      rw [hp] at hc
      refine ⟨kk, ?_⟩
      rw [strSlice_whole x a b hc]
      exact .str _ _
    · refine ⟨?_, ?_⟩
      · rw [hp, hq]
        show (sliceL x.cps.toList a b).toArray.size ≤ sizeLine
        have := sliceL_length x.cps.toList a b
        rw [List.size_toArray]
        have e : x.cps.toList.length = x.length := by simp [Str.length]
        omega
      · rw [hp, hq]
        exact ⟨keeps_trans kk (keeps_toks _ _), .str _ _⟩))
end
end Mine

set_option Elab.async false
set_option linter.unusedVariables false
set_option linter.unusedSimpArgs false
namespace Mine
open Builtin Builtin.Str

mutual
def D.toPy : D → PyData
  | .none => .none
  | .bool b => .bool b
  | .int i => .int i
  | .str x => .str x
  | .list l => .list (D.toPys l)
  | .tup l => .tuple (D.toPys l)
  | .range .. => .none
  | .obj .. => .none
  | .raw _ => .none
def D.toPys : List D → List PyData
  | [] => []
  | d :: r => d.toPy :: D.toPys r
end
mutual
def D.flat : D → Bool
  | .list l => D.flats l
  | .tup l => D.flats l
  | .range .. => false
  | .obj .. => false
  | .raw _ => false
  | _ => true
def D.flats : List D → Bool
  | [] => true
  | d :: r => d.flat && D.flats r
end
mutual
theorem Is.reads {X : Addr → Prop} {h : Heap} : ∀ {v : Value} {d : D}, Is X h v d → d.flat = true → ∃ as, Reads h v d.toPy as
  | _, _, .none, _ => ⟨_, .none⟩
  | _, _, .bool b, _ => ⟨_, .bool b⟩
  | _, _, .int i t, _ => ⟨_, .int i t⟩
  | _, _, .str x t, _ => ⟨_, .str x t⟩
  | _, _, .list ha ho hs, hf => by
    rw [D.flat] at hf
    obtain ⟨as, r⟩ := IsAll.reads hs hf
    rw [D.toPy]
    exact ⟨_, .list ho rfl rfl (by simpa using r)⟩
  | _, _, .tup ha ho hs, hf => by
    rw [D.flat] at hf
    obtain ⟨as, r⟩ := IsAll.reads hs hf
    rw [D.toPy]
    exact ⟨_, .tuple ho rfl rfl (by simpa using r)⟩
theorem IsAll.reads {X : Addr → Prop} {h : Heap} : ∀ {vs : List Value} {ds : List D}, IsAll X h vs ds → D.flats ds = true → ∃ as, ReadsAll h vs (D.toPys ds) as
  | _, _, .nil, _ => ⟨_, .nil⟩
  | _, _, .cons a r, hf => by
    rw [D.flats, Bool.and_eq_true] at hf
    obtain ⟨as, q⟩ := Is.reads a hf.1
    obtain ⟨bs, q'⟩ := IsAll.reads r hf.2
    rw [D.toPys]
    exact ⟨_, .cons q q'⟩
end

theorem ints_all {X : Addr → Prop} {h : Heap} : ∀ {vs : List Value} {ns : List Int}, IsAll X h vs (ns.map D.int) → AllInts vs.toArray ∧ numsOf vs = ns
  | [], [], _ => ⟨by intro v hv; simp at hv, rfl⟩
  | v :: vs, n :: ns, .cons i r => by
    obtain ⟨t, rfl⟩ := i.int_inv
    obtain ⟨a, b⟩ := ints_all r
    refine ⟨fun u hu => ?_, by rw [numsOf, b]⟩
    simp only [List.mem_toArray, List.mem_cons] at hu
    rcases hu with rfl | hu
    · exact ⟨_, _, rfl⟩
    · exact a u (by simpa using hu)

section
variable {prog : Program} {w : World} {h₀ : Heap} {C : Cx} {ρ : Vs}

/-! operators -/
theorem bin_floordiv {a b : Int} (hb : b ≠ 0) (hl : b.natAbs.log2 < 9000) : BinD prog w h₀ C ρ .FloorDiv (.int a) (.int b) (.int (a.fdiv b)) := fun va vb s H ia ib => by
  obtain ⟨t, rfl⟩ := ia.int_inv; obtain ⟨u, rfl⟩ := ib.int_inv
  exact floordiv_int hb ⟨keeps_toks s _, .int _ _⟩ (.inl (PyProof.noPylong_of_log2 hl))
theorem bin_mod {a b : Int} (hb : b ≠ 0) : BinD prog w h₀ C ρ .Mod (.int a) (.int b) (.int (a.fmod b)) := fun va vb s H ia ib => by
  obtain ⟨t, rfl⟩ := ia.int_inv; obtain ⟨u, rfl⟩ := ib.int_inv
  exact mod_int' hb ⟨keeps_toks s _, .int _ _⟩
theorem bin_pow {a n : Int} (hn : 0 ≤ n) (hsz : (Builtin.Int.intBits a : Int) * n ≤ 2 ^ 27) : BinD prog w h₀ C ρ .Pow (.int a) (.int n) (.int (a ^ n.toNat)) := fun va vb s H ia ib => by
  obtain ⟨t, rfl⟩ := ia.int_inv; obtain ⟨u, rfl⟩ := ib.int_inv
  exact PyProof.Rows.pow_int hn hsz ⟨keeps_toks s _, .int _ _⟩
theorem bin_list_add {l m : List D} (hsz : l.length + m.length ≤ sizeLine) : BinD prog w h₀ C ρ .Add (.list l) (.list m) (.list (l ++ m)) := fun va vb s H ia ib => by
  obtain ⟨a, vs, n, rfl, ha, ho, hs⟩ := ia.list_inv
  obtain ⟨b, ws, k, rfl, hb, ho2, hs2⟩ := ib.list_inv
  refine concat_meets ⟨_, ho, rfl⟩ ⟨_, ho2, rfl⟩ noFill_list_add seq_list_add PySem.F.slot_list_add PySem.F.entry_list_add (PySem.F.args_list_add_2 _ _) (list_addW a b vs.toArray ws.toArray n k none none #[] #[] (by simpa [hs.length, hs2.length] using hsz)) ⟨ho, ho2, ?_⟩
  have kp := keeps_push s { cls := .type "list", data := .seq (vs.toArray ++ ws.toArray) }
  refine ⟨kp, .list (n := 0) (vs := vs ++ ws) H.fresh ?_ ((hs.append hs2).keeps kp)⟩
  refine (Heap.get?_push_size _ rfl).trans ?_
  simp [listObj]
theorem foldl_rep {α : Type} (a : Array α) (n : Nat) : (List.replicate n a).foldl (fun x y => x ++ y) #[] = ((List.replicate n a.toList).flatten).toArray := by
  have : ∀ (l : List (Array α)) (acc : Array α), l.foldl (fun x y => x ++ y) acc = acc ++ ((l.map (·.toList)).flatten).toArray := by
    intro l
    induction l with
    | nil => intro acc; simp
    | cons x r ih => intro acc; rw [List.foldl_cons, ih]; apply Array.ext'; simp
  rw [this]
  simp
theorem isAll_rep {X : Addr → Prop} {h : Heap} {vs : List Value} {ds : List D} (i : IsAll X h vs ds) : ∀ n : Nat, IsAll X h ((List.replicate n vs).flatten) ((List.replicate n ds).flatten)
  | 0 => .nil
  | n + 1 => by rw [List.replicate_succ, List.replicate_succ, List.flatten_cons, List.flatten_cons]; exact i.append (isAll_rep i n)
theorem bin_list_mul {l : List D} {x : Int} (hlo : -(2 ^ 63 : Int) ≤ x) (hhi : x < 2 ^ 63) (hsz : l.length * x.toNat ≤ 2 ^ 24) : BinD prog w h₀ C ρ .Mult (.list l) (.int x) (.list ((List.replicate x.toNat l).flatten)) := fun va vb s H ia ib => by
  obtain ⟨a, vs, n, rfl, ha, ho, hs⟩ := ia.list_inv
  obtain ⟨u, rfl⟩ := ib.int_inv
  refine wpAny_binaryOp_repeat_ref (T := "list") (U := "int") (by decide) ⟨_, ho, rfl⟩ (fun s' => typeIs_int s' x u) noFill_list_mul F.fills_int_mul F.slot_int_rmul repeat_list F.slot_int_index.lookup
    (call_meets F.slot_int_rmul (typeIs_int s x u) F.entry_int_rmul (F.args_int_rmul_2 _ _) (int___rmul___int_list x u a vs.toArray n)
      ⟨ho, rfl, ⟨_, ho, rfl⟩, call_meets F.slot_list_mul ⟨_, ho, rfl⟩ F.entry_list_mul (F.args_list_mul_2 _ _)
        (AutoListH.list___mul___list_int_3 a vs.toArray n x u (by simp [Builtin.List.listFitsIndex]; omega) (by rw [List.size_toArray, hs.length]; omega) (by rw [List.size_toArray, hs.length]; simp [Builtin.List.listTooLong, sizeLine]; omega)) ⟨ho, ?_⟩⟩)
  refine ⟨keeps_push s _, .list (n := 0) (vs := (List.replicate x.toNat vs).flatten) H.fresh ((Heap.get?_push_size _ rfl).trans ?_) ((isAll_rep hs _).keeps (keeps_push s _))⟩
  rw [foldl_rep]
  cases vs with
  | nil => simp [listObj]
  | cons v r => simp [listObj]

def repStr (c n : Nat) : Str := ⟨(List.replicate n c).toArray⟩
theorem bin_str_mul {c : Nat} {x : Int} (h0 : 0 ≤ x) (hx : x < 2 ^ 20) : BinD prog w h₀ C ρ .Mult (.str ⟨#[c]⟩) (.int x) (.str (repStr c x.toNat)) := fun va vb s H ia ib => by
  obtain ⟨t, rfl⟩ := ia.str_inv; obtain ⟨u, rfl⟩ := ib.int_inv
  have hok : MulOk ⟨#[c]⟩ x := by
    refine ⟨by simp; omega, fun h _ => ?_, fun _ _ => ?_⟩
    · show ¬ ((1 : Nat) : Int) > (2 ^ 63 - 1) / x
      have : 1 ≤ ((2 : Int) ^ 63 - 1) / x := Int.le_ediv_of_mul_le (by omega) (by omega)
      omega
    · show decide (1 * x.toNat > sizeLine) = false
      have := sizeLine_eq
      simp only [decide_eq_false_iff_not]
      omega
  have e : Txt.mul ⟨#[c]⟩ x = repStr c x.toNat := by
    unfold Txt.mul repStr
    by_cases h1 : x < 1
    · have : x = 0 := by omega
      subst this
      rfl
    · rw [if_neg h1]
      by_cases h2 : x = 1
      · subst h2; rfl
      · have : ((x == 1 || Str.length ⟨#[c]⟩ == 0) = true) = False := by simp [h2, Str.length]
        rw [if_neg (by rw [this]; exact id)]
        show (⟨_⟩ : Str) = ⟨_⟩
        congr 1
        have := foldl_rep #[c] x.toNat
        simp only at this
        rw [show (List.replicate x.toNat #[c]).foldl (fun x1 x2 => x1 ++ x2) #[] = ((List.replicate x.toNat (#[c] : Array Nat).toList).flatten).toArray from this]
        congr 1
        generalize x.toNat = m
        induction m with
        | zero => rfl
        | succ m ih => rw [List.replicate_succ, List.flatten_cons, ih, List.replicate_succ]; rfl
  refine up (SB.mul hok fun t' k => ⟨keeps0_toks s _, ?_⟩)
  rw [e]; exact .str _ _
theorem ev_neg {e : Expr} {pos : Pos} {i : Int} (h : EvD prog w h₀ C ρ e (.int i)) : EvD prog w h₀ C ρ (.UnaryOp .USub e pos) (.int (-i)) := fun s H =>
  wpAny_UnaryOp (h.then H fun v s₁ k₁ H₁ i₁ => by
    obtain ⟨t, rfl⟩ := i₁.int_inv
    exact neg_int ⟨keeps_trans k₁ (keeps_toks _ _), .int _ _⟩)
theorem tr_int {e : Expr} {i : Int} (h : EvD prog w h₀ C ρ e (.int i)) (he : ∀ env whole, isTrue e env whole = (do let v ← whole; standAt e.pos; holding [v] (truthy v)) := by intro _ _; rfl) : TrD prog w h₀ C ρ e (i != 0) :=
  tr_of h (fun v s q Q E hq => by obtain ⟨t, rfl⟩ := q.int_inv; exact truthy_int hq) he
theorem tr_bool {e : Expr} {b : Bool} (h : EvD prog w h₀ C ρ e (.bool b)) (he : ∀ env whole, isTrue e env whole = (do let v ← whole; standAt e.pos; holding [v] (truthy v)) := by intro _ _; rfl) : TrD prog w h₀ C ρ e b :=
  tr_of h (fun v s q Q E hq => by cases q.bool_inv; exact wpAny_truthy_bool hq) he

/-! comparisons -/
theorem cmp_gt_int {a b : Int} : CmpD prog w h₀ C ρ .Gt (.int a) (.int b) (decide (a > b)) := fun va vb s H ia ib => by
  obtain ⟨t, rfl⟩ := ia.int_inv; obtain ⟨u, rfl⟩ := ib.int_inv
  exact gt_int ⟨keeps_refl s, .bool _⟩
theorem cmp_ge_int {a b : Int} : CmpD prog w h₀ C ρ .GtE (.int a) (.int b) (decide (a ≥ b)) := fun va vb s H ia ib => by
  obtain ⟨t, rfl⟩ := ia.int_inv; obtain ⟨u, rfl⟩ := ib.int_inv
  exact ge_int ⟨keeps_refl s, .bool _⟩
theorem cmp_gt_str {a b : Str} : CmpD prog w h₀ C ρ .Gt (.str a) (.str b) (decide (b.cps.toList < a.cps.toList)) := fun va vb s H ia ib => by
  obtain ⟨t, rfl⟩ := ia.str_inv; obtain ⟨u, rfl⟩ := ib.str_inv
  exact P.gt_str ⟨keeps_refl s, .bool _⟩
theorem cmp_is_bool {a b : Bool} : CmpD prog w h₀ C ρ .Is (.bool a) (.bool b) (a == b) := fun va vb s H ia ib => by
  cases ia.bool_inv; cases ib.bool_inv
  refine wpAny_is_plain (by rfl) ⟨keeps_refl s, ?_⟩
  have : ((Value.bool a) == (Value.bool b)) = (a == b) := by cases a <;> cases b <;> rfl
  rw [this]; exact .bool _
def D.ok (d : D) : Bool := d.flat && SeqAt.shaped d.toPy
theorem cmp_eq_data {a b : D} (ha : a.ok = true) (hb : b.ok = true) (hu : C.A.units + 64 < cLine) : CmpD prog w h₀ C ρ .Eq a b (PyData.eqv a.toPy b.toPy) := fun va vb s H ia ib => by
  unfold D.ok at ha hb
  rw [Bool.and_eq_true] at ha hb
  obtain ⟨as, ra⟩ := ia.reads ha.1
  obtain ⟨bs, rb⟩ := ib.reads hb.1
  exact SeqAt.compareEq_shaped ra rb ha.2 hb.2 hu ⟨keeps_refl s, .bool _⟩
theorem cmp_ne_data {a b : D} (ha : a.ok = true) (hb : b.ok = true) (hu : C.A.units + 64 < cLine) : CmpD prog w h₀ C ρ .NotEq a b (!PyData.eqv a.toPy b.toPy) := fun va vb s H ia ib => by
  unfold D.ok at ha hb
  rw [Bool.and_eq_true] at ha hb
  obtain ⟨as, ra⟩ := ia.reads ha.1
  obtain ⟨bs, rb⟩ := ib.reads hb.1
  exact SeqAt.compareNe_shaped ra rb ha.2 hb.2 hu ⟨keeps_refl s, .bool _⟩

/-! built-in functions -/
theorem IsAll.one {X : Addr → Prop} {h : Heap} {vs : List Value} {a : D} (q : IsAll X h vs [a]) : ∃ v, vs = [v] ∧ Is X h v a := by
  cases q with
  | cons x r => cases r; exact ⟨_, rfl, x⟩
theorem bi_len_list {l : List D} (hsz : l.length ≤ 2 ^ 62) : BiD prog w h₀ C ρ (.builtin "len") [.list l] (.int l.length) := fun s vs H i => by
  obtain ⟨v, rfl, i1⟩ := i.one
  obtain ⟨a, vs, n, rfl, ha, ho, hs⟩ := i1.list_inv
  refine len_list (isList_of ho) (by rw [List.size_toArray, hs.length]; omega) ⟨keeps_toks s 2, ?_⟩
  rw [List.size_toArray, hs.length]; exact .int _ _
theorem bi_len_str {x : Str} (hsz : x.length ≤ 2 ^ 62) : BiD prog w h₀ C ρ (.builtin "len") [.str x] (.int x.length) := fun s vs H i => by
  obtain ⟨v, rfl, i1⟩ := i.one
  obtain ⟨t, rfl⟩ := i1.str_inv
  exact PyProof.Rows.len_str (by omega) ⟨keeps_toks s 2, .int _ _⟩
theorem bi_sum {ns : List Int} : BiD prog w h₀ C ρ (.builtin "sum") [.list (ns.map D.int)] (.int ns.sum) := fun s vs H i => by
  obtain ⟨v, rfl, i1⟩ := i.one
  obtain ⟨a, vs, n, rfl, ha, ho, hs⟩ := i1.list_inv
  obtain ⟨hall, hn⟩ := ints_all hs
  obtain ⟨xs, e⟩ := hall.items
  have hl := isList_of ho
  rw [e] at hl
  refine up (sum_intListG H.good.hh hl fun h' tk t' hk => ⟨keeps0_heap hk, ?_⟩)
  have : numsOf vs = xs.toList.map (·.1) := by rw [← nums_intItems, ← e]
  rw [preSum_eq, List.take_of_length_le (by simp), ← this, hn]
  exact .int _ _
theorem bi_min2 {a b : Int} : BiD prog w h₀ C ρ (.builtin "min") [.int a, .int b] (.int (min a b)) := fun s vs H i => by
  obtain ⟨v, u, rfl, ia, ib⟩ := i.two
  obtain ⟨t, rfl⟩ := ia.int_inv; obtain ⟨u, rfl⟩ := ib.int_inv
  refine up (min_two_ints H.good.hh fun h' tk hk => ⟨keeps0_heap hk, ?_⟩)
  split
  · rw [show min a b = b by omega]; exact .int _ _
  · rw [show min a b = a by omega]; exact .int _ _
theorem bi_max2 {a b : Int} : BiD prog w h₀ C ρ (.builtin "max") [.int a, .int b] (.int (max a b)) := fun s vs H i => by
  obtain ⟨v, u, rfl, ia, ib⟩ := i.two
  obtain ⟨t, rfl⟩ := ia.int_inv; obtain ⟨u, rfl⟩ := ib.int_inv
  refine up (max_two_ints H.good.hh fun h' tk hk => ⟨keeps0_heap hk, ?_⟩)
  split
  · rw [show max a b = b by omega]; exact .int _ _
  · rw [show max a b = a by omega]; exact .int _ _
theorem bi_range1 {n : Int} : BiD prog w h₀ C ρ (.type "range") [.int n] (.range 0 n) := fun s vs H i => by
  obtain ⟨v, rfl, i1⟩ := i.one
  obtain ⟨t, rfl⟩ := i1.int_inv
  exact call_range_1 ⟨⟨_, _, rfl, Nat.le_add_right _ 2, fun b o e => Heap.get?_push_of_some _ e⟩, .range (t := s.toks) (u := t) (v := s.toks + 1) H.fresh (Heap.get?_push_size _ rfl)⟩
theorem bi_range2 {a b : Int} : BiD prog w h₀ C ρ (.type "range") [.int a, .int b] (.range a b) := fun s vs H i => by
  obtain ⟨v, u, rfl, ia, ib⟩ := i.two
  obtain ⟨t, rfl⟩ := ia.int_inv; obtain ⟨u, rfl⟩ := ib.int_inv
  exact call_range_2 ⟨⟨_, _, rfl, Nat.le_add_right _ 1, fun b o e => Heap.get?_push_of_some _ e⟩, .range (t := t) (u := u) (v := s.toks) H.fresh (Heap.get?_push_size _ rfl)⟩
theorem bi_chr {i : Int} (h0 : 0 ≤ i) (h1 : i ≤ 1114111) : BiD prog w h₀ C ρ (.builtin "chr") [.int i] (.str ⟨#[i.toNat]⟩) := fun s vs H q => by
  obtain ⟨v, rfl, q1⟩ := q.one
  obtain ⟨t, rfl⟩ := q1.int_inv
  exact P.chr_of_int (by simp; omega) ⟨keeps_toks s 1, .str _ _⟩
theorem iter_range {lo hi : Int} (n : Nat) (hn : hi - lo = n ∨ (hi ≤ lo ∧ n = 0)) (h0 : -(2 ^ 60) ≤ lo) (h1 : lo ≤ 2 ^ 60) (h2 : -(2 ^ 60) ≤ hi) (h3 : hi ≤ 2 ^ 60) : IterD (.range lo hi) (intsFrom lo n) := by
  have hs : Builtin.Range.rangeSize lo hi 1 = n := by rw [rangeSize_one]; split <;> omega
  refine .range n ?_ hs
  unfold Builtin.Range.small
  rw [hs]
  simp [Builtin.Range.rangeFitsLong]
  omega
end
end Mine

set_option Elab.async false
set_option linter.unusedVariables false
set_option linter.unusedSimpArgs false
namespace Mine
open Builtin Builtin.Str

section
variable {prog : Program} {w : World} {h₀ : Heap} {C : Cx} {ρ : Vs}

/-! methods of texts -/
theorem ev_methS {o e : Expr} {rest : List Expr} {name : Str} {apos pos : Pos} {id : String} {x : Str} {ds : List D} {d : D} (hv : EvD prog w h₀ C ρ o (.str x)) (hargs : EvsD prog w h₀ C ρ (e :: rest) ds) (slot : Slot "str" name id)
    (hty : typeOf (.builtin id) = pure (.type "method_descriptor")) (hb : BiD prog w h₀ C ρ (.builtin id) (.str x :: ds) d)
    (hbase : ∀ env, attributeBase o name env (eval o env) = eval o env := by intro _; rfl) (hline : (apos.endLine == pos.line) = true := by rfl)
    (hfew : ∀ env, ((backTo pos (starEach (e :: rest) env)).all (fun x => !x.1) && (backToKw pos (keywordEach [] env)).all (fun x => x.1.isSome) && decide ((e :: rest).length + ([] : List Keyword).length + (if ([] : List Keyword).isEmpty then 0 else 1) < 30)) = true := by intro _; rfl)
    (he : ∀ env, starEach (e :: rest) env = (false, eval e env) :: starEach rest env := by intro _; rfl)
    (hplain : ∀ pos env, (backTo pos (starEach (e :: rest) env)).any (·.1) = false := by intro _ _; rfl) :
    EvD prog w h₀ C ρ (.Call (.Attribute o name apos) (e :: rest) [] pos) d := fun s H => by
  refine wpAny_Call_method (T := "str") (id := id) (hbase _) (hfew _) hline F.plainAttrs_str slot hty (hv.then H fun v s₁ k₁ H₁ i₁ => ?_)
  obtain ⟨t, rfl⟩ := i₁.str_inv
  refine ⟨typeIs_str _ _ _, (fun _ q => nomatch q), Calls.callWith_builtin (hplain _ _) ?_⟩
  have key : wpAny (model prog w) C.A (spliced (backTo pos (starEach (e :: rest) C.env))) (fun vs s₂ => wpAny (model prog w) C.A (call (.builtin id) ([.str x t] ++ vs) []) (fun v s' => Keeps s s' ∧ Is C.X s'.heap v d) no s₂) no s₁ :=
    hargs.then H₁ fun vs s₂ k₂ H₂ i₂ => wpAny_mono (hb s₂ (.str x t :: vs) H₂ (.cons (.str x t) i₂)) (fun v s₃ z => ⟨keeps_trans k₁ (keeps_trans k₂ z.1), z.2⟩) fun _ _ z => z
  rw [he] at key ⊢
  exact Calls.evalArgs_plain key
/-- replacing one written text by another -/
theorem ev_replace {o : Expr} {apos pos py pz : Pos} {ky kz : Nat} {x y z : Str} (hv : EvD prog w h₀ C ρ o (.str x)) (hyz : (y == z) = false) (hsz : x.length + (x.length + 1) * z.length ≤ 16777216)
    (hbase : ∀ env, attributeBase o (Str.ofString "replace") env (eval o env) = eval o env := by intro _; rfl) (hline : (apos.endLine == pos.line) = true := by rfl) :
    EvD prog w h₀ C ρ (.Call (.Attribute o (Str.ofString "replace") apos) [.Constant (.str y) ky py, .Constant (.str z) kz pz] [] pos) (.str (Txt.replace x y z)) := fun s H => by
  refine wpAny_Call_method (T := "str") (id := "str.replace") (hbase _) (by rfl) hline F.plainAttrs_str F.slot_str_replace F.type_str_replace (hv.then H fun v s₁ k₁ H₁ i₁ => ?_)
  obtain ⟨t, rfl⟩ := i₁.str_inv
  refine ⟨typeIs_str _ _ _, (fun _ q => nomatch q), Calls.callWith_builtin (by rfl) ?_⟩
  refine Calls.evalArgs_plain (Calls.spliced_cons (wpAny_Constant_str (k := ky) (pos := py) (Calls.spliced_cons (wpAny_Constant_str (k := kz) (pos := pz) (Calls.spliced_nil ?_)))))
  have h1 := H₁.toks
  have := up (P := fun v s' => Is C.X s'.heap v (.str (Txt.replace x y z))) (s := { s₁ with toks := s₁.toks + 1 + 1 }) (SC.replace (prog := prog) (w := w) (A := C.A) (x := x) (y := y) (z := z) (t := t) (u := s₁.toks) (v := s₁.toks + 1) (Nat.ne_of_gt (Nat.lt_of_lt_of_le Nat.zero_lt_one h1)) (Nat.succ_ne_zero _) (Nat.ne_of_lt (Nat.lt_succ_self _)) hyz hsz fun t' k => ⟨keeps0_toks _ _, .str _ _⟩)
  exact wpAny_mono this (fun v s' q => ⟨keeps_trans k₁ (keeps_trans (keeps_toks s₁ 2) q.1), q.2⟩) fun _ _ q => q

/-! a chain of two comparisons -/
theorem tr_chain2 {a b c : Expr} {o1 o2 : CmpOp} {pos : Pos} {da db dc : D} {p q : Bool} (ha : EvD prog w h₀ C ρ a da) (hb : EvD prog w h₀ C ρ b db) (hc : EvD prog w h₀ C ρ c dc) (h1 : CmpD prog w h₀ C ρ o1 da db p) (h2 : CmpD prog w h₀ C ρ o2 db dc q)
    (hm : ∀ env, isTrue (.Compare a [o1, o2] [b, c] pos) env (eval (.Compare a [o1, o2] [b, c] pos) env) = (do testChain pos (← eval a env) [o1, o2] [eval b env, eval c env]) := by intro _; rfl) :
    TrD prog w h₀ C ρ (.Compare a [o1, o2] [b, c] pos) (p && q) := fun s H => by
  rw [hm]
  refine wpAny_bind (ha.then H fun va s₁ k₁ H₁ i₁ => ?_)
  show wpAny _ _ (do
    let rv ← holding [va] (eval b C.env)
    standAt pos
    let c ← holding [va, rv] (compareOp o1 va rv)
    release [va, rv] [c]
    if ← holding [c, rv] (truthy c) then testChain pos rv [o2] [eval _ C.env] else pure false) _ _ _
  refine wpAny_bind (wpAny_holding (hb.then H₁ fun vb s₂ k₂ H₂ i₂ => wpAny_bind (wpAny_standAt (wpAny_bind (wpAny_holding (wpAny_mono (h1 va vb s₂ H₂ (i₁.keeps k₂) i₂) (fun v s₃ z => ?_) fun _ _ z => z))))))
  obtain ⟨k₃, i₃⟩ := z
  cases i₃.bool_inv
  have H₃ := H₂.keeps k₃
  have k13 := keeps_trans k₁ (keeps_trans k₂ k₃)
  refine wpAny_bind (wpAny_release (wpAny_bind (wpAny_holding (wpAny_truthy_bool ?_))))
  cases p with
  | false => exact wpAny_pure ⟨k13, rfl⟩
  | true =>
    show wpAny _ _ (do
      let rv ← holding [vb] (eval c C.env)
      standAt pos
      let c ← operate [vb, rv] (compareOp o2 vb rv)
      holding [c] (truthy c)) _ _ _
    refine wpAny_bind (wpAny_holding (hc.then H₃ fun vc s₄ k₄ H₄ i₄ => wpAny_bind (wpAny_standAt (wpAny_bind (wpAny_operating (wpAny_mono (h2 vb vc s₄ H₄ ((i₂.keeps k₃).keeps k₄) i₄) (fun v s₅ z => ?_) fun _ _ z => z))))))
    obtain ⟨k₅, i₅⟩ := z
    cases i₅.bool_inv
    exact wpAny_holding (wpAny_truthy_bool ⟨keeps_trans k13 (keeps_trans k₄ k₅), rfl⟩)
end
end Mine

set_option Elab.async false
set_option linter.unusedVariables false
set_option linter.unusedSimpArgs false
namespace Mine

/-! what lies in an object's dict -/
theorem keyName_isStr {k : Value} {x n : Str} (h : keyName k = some x) : k.isStr n = (x == n) := by
  unfold keyName at h
  split at h
  · cases h; rfl
  · cases h
theorem keyName_ref {e : DictEntry} {x : Str} (h : keyName e.key = some x) : e.refKey = false := by
  unfold keyName at h
  split at h
  · rename_i q; unfold DictEntry.refKey; rw [q]
  · cases h
theorem getL_none : ∀ {es : List DictEntry} {ns : List Str} {name : Str}, es.map (fun e => keyName e.key) = ns.map some → name ∉ ns → getL name es = some none
  | es, ns, name, h, hn => by
    have h1 : es.find? (fun e => e.key.isStr name) = none := by
      rw [List.find?_eq_none]
      intro e he q
      have : keyName e.key ∈ ns.map some := by rw [← h]; exact List.mem_map_of_mem he
      obtain ⟨x, hx, ex⟩ := List.mem_map.mp this
      rw [keyName_isStr ex.symm] at q
      exact hn (beq_iff_eq.mp q ▸ hx)
    have h2 : es.any (fun e => e.refKey) = false := by
      rw [List.any_eq_false]
      intro e he q
      have : keyName e.key ∈ ns.map some := by rw [← h]; exact List.mem_map_of_mem he
      obtain ⟨x, hx, ex⟩ := List.mem_map.mp this
      rw [keyName_ref ex.symm] at q; cases q
    unfold getL
    rw [h1]
    simp [h2]
def attrOf (ns : List Str) (vs : List D) (name : Str) : Option D := match ns, vs with
  | n :: ns, v :: vs => if n == name then some v else attrOf ns vs name
  | _, _ => none
theorem getL_some {X : Addr → Prop} {h : Heap} : ∀ {es : List DictEntry} {ns : List Str} {vs : List D} {name : Str} {d : D}, es.map (fun e => keyName e.key) = ns.map some → IsAll X h (es.map (fun e => e.val)) vs → attrOf ns vs name = some d →
    ∃ v, getL name es = some (some v) ∧ Is X h v d
  | [], [], vs, name, d, _, _, q => by cases vs <;> cases q
  | [], n :: ns, vs, name, d, e, _, _ => by cases e
  | e :: es, [], vs, name, d, q, _, _ => by cases q
  | e :: es, n :: ns, [], name, d, _, i, q => by cases i
  | e :: es, n :: ns, v :: vs, name, d, q, i, a => by
    injection q with q1 q2
    cases i with
    | cons i1 i2 =>
      unfold attrOf at a
      split at a
      · rename_i hn
        cases a
        refine ⟨e.val, ?_, i1⟩
        unfold getL
        rw [List.find?_cons, keyName_isStr q1, hn]
      · rename_i hn
        obtain ⟨v', a1, a2⟩ := getL_some q2 i2 a
        refine ⟨v', ?_, a2⟩
        unfold getL at a1 ⊢
        rw [List.find?_cons, keyName_isStr q1]
        rw [Bool.not_eq_true] at hn
        rw [hn]
        split at a1
        · rename_i z; cases a1; rw [z]
        · rename_i z
          split at a1
          · cases a1
          · cases a1
theorem handed_is {X : Addr → Prop} {h : Heap} {v : Value} {d : D} (i : Is X h v d) (hd : ∀ u, d ≠ .raw u) : handedIn v = true := by
  cases i <;> first | rfl | (exact absurd rfl (hd _))

/-- the class's plain ways -/
structure ClsOk (K : Frag) (c : Addr) : Prop where
  ga : findIn K (.ref c) "__getattribute__" = some (some (.builtin "object.__getattribute__"))
  gat : findIn K (.ref c) "__getattr__" = some none
  sa : findIn K (.ref c) "__setattr__" = some (some (.builtin "object.__setattr__"))
  hh : hasDictIn K c = true
  po : plainOver K c = true

section
variable {prog : Program} {w : World} {h₀ : Heap} {C : Cx} {ρ : Vs} {K : Frag} {c : Addr}

theorem instAt {X : Addr → Prop} {h : Heap} {a dx c : Addr} {es : List DictEntry} {n : Nat} (h1 : h.get? a = some (instO c dx)) (h2 : h.get? dx = some (dictO es n)) : InstAt h a (instO c dx) c (some (dictOf es n)) := ⟨h1, rfl, rfl, h2⟩

theorem ev_attr {e : Expr} {name : Str} {pos : Pos} {ns : List Str} {vs : List D} {d : D} (KX : K.In h₀) (ok : ClsOk K c) (he : EvD prog w h₀ C ρ e (.obj c ns vs)) (ha : attrOf ns vs name = some d) (hf : findIn K (.ref c) name = some none) (hd : ∀ u, d ≠ .raw u)
    (hx : ∀ env, eval (.Attribute e name pos) env = (do
      let o ← eval e env
      standAt pos.atName
      let r ← holding [o] (getAttr o name true)
      letTemporaryGo e o r
      pure r) := by intro _; with_unfolding_all rfl) : EvD prog w h₀ C ρ (.Attribute e name pos) d := fun s H => by
  refine Attribute_any_ (he.then H fun v s₁ k₁ H₁ i₁ => ?_) (hx _)
  cases i₁ with
  | obj a1 a2 a3 a4 a5 a6 =>
    obtain ⟨v, b1, b2⟩ := getL_some a5 a6 ha
    refine get_value (KX.keeps H₁.top) (instAt (X := C.X) a3 a4) ok.ga (findObj_own ok.hh hf rfl (by rw [lookIn_dict]; exact b1)) (handed_is b2 hd) ?_
    exact ⟨keeps_trans k₁ (keeps_toks s₁ 1), b2⟩

theorem ev_cattr {e : Expr} {name : Str} {pos : Pos} {mc : Value} {v : Value} {d : D} (KX : K.In h₀) (he : EvV prog w h₀ C ρ e (.ref c)) (hr : readsIn K c mc = true) (hf : findCls K (.ref c) mc name = some (.val v)) (hv : handedIn v = true) (hi : ∀ X h, Is X h v d)
    (hx : ∀ env, eval (.Attribute e name pos) env = (do
      let o ← eval e env
      standAt pos.atName
      let r ← holding [o] (getAttr o name true)
      letTemporaryGo e o r
      pure r) := by intro _; with_unfolding_all rfl) : EvD prog w h₀ C ρ (.Attribute e name pos) d := fun s H =>
  Attribute_any_ (he.then H fun s₁ k₁ H₁ => cls_value (KX.keeps H₁.top) hr hf hv ⟨keeps_trans k₁ (keeps_toks s₁ 1), hi _ _⟩) (hx _)
end
end Mine

set_option Elab.async false
set_option linter.unusedVariables false
set_option linter.unusedSimpArgs false
namespace Mine

/-- all that lies between two addresses, but L -/
def allBut (h : Heap) (L : Addr) (lo n : Nat) : List (Addr × Obj) := (List.range' lo n).filterMap fun a => if a = L then none else (h.get? a).map fun o => (a, o)
theorem allBut_mem {h : Heap} {L : Addr} {lo n : Nat} {a : Addr} {o : Obj} (h1 : @LE.le Nat _ lo a) (h2 : @LT.lt Nat _ a (lo + n)) (ha : a ≠ L) (e : h.get? a = some o) : (a, o) ∈ allBut h L lo n := by
  refine List.mem_filterMap.mpr ⟨a, List.mem_range'_1.mpr ⟨h1, h2⟩, ?_⟩
  rw [if_neg ha, e]; rfl
theorem allBut_spec {h : Heap} {L : Addr} {lo n : Nat} {p : Addr × Obj} (hp : p ∈ allBut h L lo n) : h.get? p.1 = some p.2 ∧ p.1 ≠ L ∧ @LE.le Nat _ lo p.1 ∧ @LT.lt Nat _ p.1 (lo + n) := by
  obtain ⟨a, ha, e⟩ := List.mem_filterMap.mp hp
  have hr := List.mem_range'_1.mp ha
  by_cases q : a = L
  · rw [if_pos q] at e; cases e
  · rw [if_neg q] at e
    obtain ⟨o, ho, rfl⟩ := Option.map_eq_some_iff.mp e
    exact ⟨ho, q, hr.1, hr.2⟩

theorem putL_new {name : Str} {hs : Int} {k v : Value} : ∀ (es : List DictEntry), (∀ e ∈ es, e.key.isStr name = false) → putL name hs k v es = es ++ [⟨hs, k, v⟩]
  | [], _ => rfl
  | e :: r, hf => by
    unfold putL
    rw [hf e (.head _), if_neg Bool.false_ne_true, putL_new r (fun e he => hf e (.tail _ he))]
    rfl

section
variable {prog : Program} {w : World} {h₀ : Heap} {C : Cx} {ρ : Vs} {K : Frag} {c : Addr}

theorem set_all {A : Around} {E : Value → Shared → Prop} {s : Shared} {x dx L : Addr} {es : List DictEntry} {n : Nat} {m : Str → Option Value} {name : Str} {v : Value} {Q : Unit → Shared → Prop} (X : K.In s.heap) (ok : ClsOk K c)
    (hx : s.heap.get? x = some (instO c dx)) (hd : s.heap.get? dx = some (dictO es n)) (hL : s.heap.Ns L m) (hdL : dx ≠ L) (ht : takerIn K c name = some none) (hl : getL name es = some none) (hz : es.length < 1000)
    (q : ∀ h' k n', h'.Ns L m → (∀ b o, b ≠ L → b ≠ dx → s.heap.get? b = some o → h'.get? b = some o) → h'.get? dx = some (dictO (es ++ [⟨PyData.keyHash w.params name, .str name k, v⟩]) n') → Q () { s with heap := h', toks := s.toks + 2 }) :
    wpAny (model prog w) A (setAttr (.ref x) name v) Q E s := by
  have I := instAt (X := fun _ => False) hx hd
  have hlt := Heap.lt_size hd
  have hput : putL name (PyData.keyHash w.params name) (.str name (s.toks + 1)) v es = es ++ [⟨PyData.keyHash w.params name, .str name (s.toks + 1), v⟩] := by
    have hf : ∀ e ∈ es, e.key.isStr name = false := by
      intro e he
      unfold getL at hl
      split at hl
      · cases hl
      · rename_i z
        have := List.find?_eq_none.mp z e he
        simpa using this
    exact putL_new es hf
  refine set_plain X I ok.sa (osa_dict (h₀ := ⟨#[], {}⟩) (L := L) (m := m) (s := { s with toks := s.toks + 1 }) (pre := allBut s.heap L 0 dx) (post := allBut s.heap L (dx + 1) s.heap.objs.size) (od := dictOf es n)
    (es := putL name (PyData.keyHash w.params name) (.str name (s.toks + 1)) v es) (n := putN name es n) ⟨hL, fun b o e => ?_, Nat.zero_le _⟩ ?_ X I rfl ok.po ht ok.hh (by rw [lookIn_dict, hl]; rfl) ?_ ?_ (putName_dict _ _ _ _ _ _) rfl (by rw [hput]; simp; omega) fun h' F' N' => ?_)
  · simp [Heap.get?] at e
  · intro p hp
    refine ⟨?_, ?_, by simp [Heap.get?]⟩
    · rcases List.mem_append.mp hp with hp | hp
      · exact (allBut_spec hp).1
      · rcases List.mem_cons.mp hp with rfl | hp
        · exact hd
        · exact (allBut_spec hp).1
    · rcases List.mem_append.mp hp with hp | hp
      · exact (allBut_spec hp).2.1
      · rcases List.mem_cons.mp hp with rfl | hp
        · exact hdL
        · exact (allBut_spec hp).2.1
  · intro p hp
    have := (allBut_spec hp).2.2.2
    rw [Nat.zero_add] at this
    exact Nat.ne_of_lt this
  · intro p hp
    exact Nat.ne_of_gt (allBut_spec hp).2.2.1
  · rw [hput] at N'
    refine q h' (s.toks + 1) _ F'.ns (fun b o h1 h2 e => ?_) (N' (dx, _) (List.mem_append_right _ (.head _))).1
    have hb := Heap.lt_size e
    rcases Nat.lt_or_gt_of_ne h2 with z | z
    · exact (N' (b, o) (List.mem_append_left _ (allBut_mem (Nat.zero_le _) (by rw [Nat.zero_add]; exact z) h1 e))).1
    · exact (N' (b, o) (List.mem_append_right _ (.tail _ (allBut_mem z (Nat.lt_of_lt_of_le hb (Nat.le_add_left _ _)) h1 e)))).1

/-- the object that is being made -/
structure InstS (C : Cx) (c x dx : Addr) (ns : List Str) (vs : List D) (s : Shared) : Prop where
  at_ : s.heap.get? x = some (instO c dx)
  dict : ∃ es n, s.heap.get? dx = some (dictO es n) ∧ es.map (fun e => keyName e.key) = ns.map some ∧ IsAll C.X s.heap (es.map (fun e => e.val)) vs
structure Owns (h₀ : Heap) (C : Cx) (x dx : Addr) : Prop where
  nd : h₀.get? dx = none
  rx : C.X x
  rd : C.X dx
  wx : ¬ C.W x
  wd : ¬ C.W dx
  ne : x ≠ dx
theorem InstS.keepsW {x dx : Addr} {ns : List Str} {vs : List D} {s s' : Shared} (g : Good h₀ C) (o : Owns h₀ C x dx) (i : InstS C c x dx ns vs s) (k : KeepsW C.W s s') : InstS C c x dx ns vs s' := by
  obtain ⟨a, es, n, b, d, e⟩ := i
  exact ⟨keepsW_get k o.wx a, es, n, keepsW_get k o.wd b, d, e.keepsW k g.sub⟩
theorem InstS.keeps {x dx : Addr} {ns : List Str} {vs : List D} {s s' : Shared} (i : InstS C c x dx ns vs s) (k : Keeps s s') : InstS C c x dx ns vs s' := by
  obtain ⟨a, es, n, b, d, e⟩ := i
  exact ⟨keeps_get k a, es, n, keeps_get k b, d, e.keeps k⟩

theorem st_attr {s : Shared} {E : Value → Shared → Prop} {x dx : Addr} {ns : List Str} {vs : List D} {self name : Str} {p ap pos : Pos} {e : Expr} {d : D} {Q : Flow → Shared → Prop} (H : Sat h₀ C ρ s) (KX : K.In h₀) (ok : ClsOk K c) (o : Owns h₀ C x dx) (i : InstS C c x dx ns vs s)
    (hself : EvV prog w h₀ C ρ (.Name self p) (.ref x)) (he : EvD prog w h₀ C ρ e d) (hn : name ∉ ns) (ht : takerIn K c name = some none) (hz : ns.length < 1000)
    (q : ∀ s', Sat h₀ C ρ s' → KeepsW (fun a => a = dx ∨ C.W a) s s' → InstS C c x dx (ns ++ [name]) (vs ++ [d]) s' → Q .next s')
    (hs : swapsWith e (some (.Attribute (.Name self p) name ap)) pos.line C.env = pure false := by rfl) :
    wpAny (model prog w) C.A (exec (.Assign [.Attribute (.Name self p) name ap] e pos) C.env) Q E s := by
  refine plainObj_wpAny_Assign_Attribute (he.then H fun v s₁ k₁ H₁ i₁ => hself.then H₁ fun s₂ k₂ H₂ => ?_) hs
  have i₂ := i₁.keeps k₂
  have i' := i.keeps (keeps_trans k₁ k₂)
  obtain ⟨a1, es, n, a2, a3, a4⟩ := i'
  obtain ⟨m, hm⟩ := H₂.loc
  have hL := H₂.good.wloc
  have hdL : dx ≠ C.env.locals := fun z => o.wd (z ▸ hL)
  have hxL : x ≠ C.env.locals := fun z => o.wx (z ▸ hL)
  refine set_all (KX.keeps H₂.top) ok a1 a2 hm hdL ht (getL_none a3 hn) ?_ fun h' k n' hm' hk hdx => ?_
  · have := congrArg List.length a3
    rw [List.length_map, List.length_map] at this
    omega
  have mono : ∀ {v : Value} {d : D}, Is C.X s₂.heap v d → Is C.X h' v d := fun j => j.mono fun b ob nb eb => ⟨nb, hk b ob (fun z => nb (H₂.good.sub _ (z ▸ hL))) (fun z => nb (z ▸ o.rd)) eb⟩
  have monoA : ∀ {v : List Value} {d : List D}, IsAll C.X s₂.heap v d → IsAll C.X h' v d := fun j => j.mono fun b ob nb eb => ⟨nb, hk b ob (fun z => nb (H₂.good.sub _ (z ▸ hL))) (fun z => nb (z ▸ o.rd)) eb⟩
  have KW : KeepsW (fun a => a = dx ∨ C.W a) s₂ { s₂ with heap := h', toks := s₂.toks + 2 } := ⟨h', _, rfl, Nat.le_add_right _ _, fun b ob nb eb => hk b ob (fun z => nb (.inr (z ▸ hL))) (fun z => nb (.inl z)) eb⟩
  have top' : ∀ b ob, h₀.get? b = some ob → h'.get? b = some ob := fun b ob e0 => by
    refine hk b ob (fun z => ?_) (fun z => ?_) (H₂.top b ob e0)
    · rw [z, H₂.good.wnew _ hL] at e0; cases e0
    · rw [z, o.nd] at e0; cases e0
  have cell' : ∀ {cc : Addr} {v : Option Value}, s₂.heap.IsCell cc v → h'.IsCell cc v := fun {cc v} z => by
    obtain ⟨ob, e1, e2⟩ := z
    refine ⟨ob, hk cc ob (fun z => ?_) (fun z => ?_) e1, e2⟩
    · obtain ⟨o1, _, _, e3, e4, _⟩ := hm
      rw [z, e3] at e1; cases e1
      rw [e4] at e2; cases v <;> simp at e2
    · rw [z, a2] at e1; cases e1
      cases v <;> simp [dictO] at e2
  refine q _ ⟨H₂.good, H₂.gens, Nat.le_trans H₂.toks (Nat.le_add_right _ _), top', fun a xa => ?_, ⟨m, hm'⟩, fun y cc e0 => ?_, fun pr hpr => ?_⟩ (keepsW_trans (keepsW_of (keeps_trans k₁ k₂)) KW) ⟨hk x _ hxL o.ne a1, _, n', hdx, ?_, ?_⟩
  · obtain ⟨ob, eb⟩ := H₂.alloc a xa
    by_cases z1 : a = C.env.locals
    · obtain ⟨o1, _, _, e1, _⟩ := hm'; exact ⟨o1, z1 ▸ e1⟩
    · by_cases z2 : a = dx
      · exact ⟨_, z2 ▸ hdx⟩
      · exact ⟨ob, hk a ob z1 z2 eb⟩
  · obtain ⟨v, e1⟩ := H₂.cells y cc e0
    exact ⟨v, cell' e1⟩
  · obtain ⟨v, j, hv⟩ := H₂.vars pr hpr
    refine ⟨v, mono j, ?_⟩
    rcases hv with ⟨b1, m1, b2, b3⟩ | ⟨b1, cc, b2, b3⟩
    · exact .inl ⟨b1, m, hm', by rw [hm.eq_nsMap, ← b2.eq_nsMap]; exact b3⟩
    · exact .inr ⟨b1, cc, b2, cell' b3⟩
  · rw [List.map_append, List.map_append, a3]; rfl
  · rw [List.map_append]
    exact (monoA a4).append (.cons (mono i₂) .nil)
end
end Mine

set_option Elab.async false
set_option linter.unusedVariables false
set_option linter.unusedSimpArgs false
namespace Mine
section
variable {prog : Program} {w : World} {h₀ : Heap} {C : Cx} {ρ : Vs} {K : Frag} {c : Addr}

theorem ex_assign3 {x y z : Str} {px py pz pos : Pos} {e : Expr} {d : D} (h : EvD prog w h₀ C ρ e d) (hx : Stores C x) (hy : Stores C y) (hz : Stores C z)
    (he : ∀ env, (assignEach [.Name x px, .Name y py, .Name z pz] env).map (·.2) = [assign (.Name x px) env, assign (.Name y py) env, assign (.Name z pz) env] := by intro _; rfl)
    (hw : swappedStores [.Name x px, .Name y py, .Name z pz] e C.env = pure none := by rfl) :
    ExD prog w h₀ C ρ (.Assign [.Name x px, .Name y py, .Name z pz] e pos) (.next (put (put (put ρ x d) y d) z d)) := fun s H => by
  refine wpAny_Assign_three (h.then H fun v s₁ k₁ H₁ i₁ => ?_) (he _) hw
  refine wpAny_mono (asg_name hx v s₁ H₁ i₁) (fun _ s₂ z => ?_) fun _ _ z => z.elim
  have i₂ := i₁.keepsW z.1 H.good.sub
  refine wpAny_mono (asg_name hy v s₂ z.2 i₂) (fun _ s₃ z' => ?_) fun _ _ z => z.elim
  have i₃ := i₂.keepsW z'.1 H.good.sub
  refine wpAny_mono (asg_name hz v s₃ z'.2 i₃) (fun _ s₄ z'' => ?_) fun _ _ z => z
  exact ⟨keepsW_trans (keepsW_of k₁) (keepsW_trans z.1 (keepsW_trans z'.1 z''.1)), rfl, z''.2⟩

/-- a call of a class or a function that stands in K -/
theorem ev_callK {id : Str} {p pos : Pos} {e : Expr} {rest : List Expr} {f : Addr} {n : Nat} {ds : List D} {d : D} (KX : K.In h₀) (hf : EvV prog w h₀ C ρ (.Name id p) (.ref f)) (hk : keepIn K (.ref f) = true)
    (hargs : EvsD prog w h₀ C ρ (e :: rest) ds) (hfn : FnD prog w h₀ f n ds d) (hr : Room C.A n) (he : ∀ env, starEach (e :: rest) env = (false, eval e env) :: starEach rest env := by intro _; rfl)
    (hplain : ∀ pos env, (backTo pos (starEach rest env)).any (·.1) = false := by intro _ _; rfl) :
    EvD prog w h₀ C ρ (.Call (.Name id p) (e :: rest) [] pos) d := fun s H => by
  refine wpAny_Call_Name_kw (hf.then H fun s₁ k₁ H₁ => ?_)
  refine callWith_K KX hk (hargs.then H₁ fun vs s₂ k₂ H₂ i₂ => ⟨KX.keeps H₂.top, ?_⟩) (he _) (hplain _ _)
  exact wpAny_mono (hfn C.A C.X s₂ vs hr H₂.gens H₂.toks H₂.top H₂.alloc i₂) (fun v s₃ z => ⟨keeps_trans k₁ (keeps_trans k₂ z.1), z.2⟩) fun _ _ z => z

/-- a method's call -/
theorem ev_meth {o e : Expr} {rest : List Expr} {name : Str} {apos pos : Pos} {ns : List Str} {vs ds : List D} {d : D} {f : Addr} {n : Nat} (KX : K.In h₀) (ok : ClsOk K c) (ho : EvD prog w h₀ C ρ o (.obj c ns vs)) (hargs : EvsD prog w h₀ C ρ (e :: rest) ds)
    (hf : findIn K (.ref c) name = some (some (.ref f))) (ht : typeIn K (.ref f) = some (.type "function")) (hk : keepIn K (.ref f) = true) (hn : name ∉ ns) (hfn : FnD prog w h₀ f n (.obj c ns vs :: ds) d) (hr : Room C.A n)
    (he : ∀ env, starEach (e :: rest) env = (false, eval e env) :: starEach rest env := by intro _; rfl)
    (hplain : ∀ pos env, (backTo pos (starEach rest env)).any (·.1) = false := by intro _ _; rfl)
    (hx : ∀ env, ∃ pl, eval (.Call (.Attribute o name apos) (e :: rest) [] pos) env = (do
      let ov ← eval o env
      standAt apos.atName
      let (f, first) ← holding [ov] (getMethod ov name pl)
      callWith pos f first (backTo pos (starEach (e :: rest) env)) (backToKw pos (keywordEach [] env))) := by intro _; exact ⟨_, rfl⟩) :
    EvD prog w h₀ C ρ (.Call (.Attribute o name apos) (e :: rest) [] pos) d := fun s H => by
  obtain ⟨pl, hx⟩ := hx C.env
  refine methodCall_KW (pl := pl) (ho.then H fun v s₁ k₁ H₁ i₁ => ?_) hx
  have i₁' := i₁
  cases i₁ with
  | obj a1 a2 a3 a4 a5 a6 =>
    refine method_fn (KX.keeps H₁.top) (instAt (X := C.X) a3 a4) ok.ga ok.gat hf ht ?_ ?_
    · show (lookIn name (dictOf _ _)).map _ = _
      rw [lookIn_dict, getL_none a5 hn]; rfl
    · refine callWith_K KX hk (hargs.then H₁ fun vs s₂ k₂ H₂ i₂ => ⟨KX.keeps H₂.top, ?_⟩) (he _) (hplain _ _)
      exact wpAny_mono (hfn C.A C.X s₂ _ hr H₂.gens H₂.toks H₂.top H₂.alloc (.cons (i₁'.keeps k₂) i₂)) (fun v s₃ z => ⟨keeps_trans k₁ (keeps_trans k₂ z.1), z.2⟩) fun _ _ z => z
theorem ev_meth0 {o : Expr} {name : Str} {apos pos : Pos} {ns : List Str} {vs : List D} {d : D} {f : Addr} {n : Nat} (KX : K.In h₀) (ok : ClsOk K c) (ho : EvD prog w h₀ C ρ o (.obj c ns vs))
    (hf : findIn K (.ref c) name = some (some (.ref f))) (ht : typeIn K (.ref f) = some (.type "function")) (hk : keepIn K (.ref f) = true) (hn : name ∉ ns) (hfn : FnD prog w h₀ f n [.obj c ns vs] d) (hr : Room C.A n)
    (hx : ∀ env, ∃ pl, eval (.Call (.Attribute o name apos) [] [] pos) env = (do
      let ov ← eval o env
      standAt apos.atName
      let (f, first) ← holding [ov] (getMethod ov name pl)
      callWith pos f first (backTo pos (starEach [] env)) (backToKw pos (keywordEach [] env))) := by intro _; exact ⟨_, rfl⟩) :
    EvD prog w h₀ C ρ (.Call (.Attribute o name apos) [] [] pos) d := fun s H => by
  obtain ⟨pl, hx⟩ := hx C.env
  refine methodCall_KW (pl := pl) (ho.then H fun v s₁ k₁ H₁ i₁ => ?_) hx
  have i₁' := i₁
  cases i₁ with
  | obj a1 a2 a3 a4 a5 a6 =>
    refine method_fn (KX.keeps H₁.top) (instAt (X := C.X) a3 a4) ok.ga ok.gat hf ht ?_ ?_
    · show (lookIn name (dictOf _ _)).map _ = _
      rw [lookIn_dict, getL_none a5 hn]; rfl
    · refine callWith_K0 (KX.keeps H₁.top) hk ?_
      exact wpAny_mono (hfn C.A C.X s₁ _ hr H₁.gens H₁.toks H₁.top H₁.alloc (.cons i₁' .nil)) (fun v s₃ z => ⟨keeps_trans k₁ z.1, z.2⟩) fun _ _ z => z

/-- an attribute of the object that is being made -/
theorem at_attr {s : Shared} {x dx : Addr} {ns : List Str} {vs : List D} {e : Expr} {name : Str} {pos : Pos} {d : D} (H : Sat h₀ C ρ s) (KX : K.In h₀) (ok : ClsOk K c) (i : InstS C c x dx ns vs s) (he : EvV prog w h₀ C ρ e (.ref x)) (ha : attrOf ns vs name = some d) (hf : findIn K (.ref c) name = some none) (hd : ∀ u, d ≠ .raw u)
    (hx : ∀ env, eval (.Attribute e name pos) env = (do
      let o ← eval e env
      standAt pos.atName
      let r ← holding [o] (getAttr o name true)
      letTemporaryGo e o r
      pure r) := by intro _; with_unfolding_all rfl) : wpAny (model prog w) C.A (eval (.Attribute e name pos) C.env) (fun v s' => Keeps s s' ∧ Is C.X s'.heap v d) no s := by
  refine Attribute_any_ (he.then H fun s₁ k₁ H₁ => ?_) (hx _)
  obtain ⟨a1, es, n, a2, a3, a4⟩ := i.keeps k₁
  obtain ⟨v, b1, b2⟩ := getL_some a3 a4 ha
  refine get_value (KX.keeps H₁.top) (instAt (X := C.X) a1 a2) ok.ga (findObj_own ok.hh hf rfl (by rw [lookIn_dict]; exact b1)) (handed_is b2 hd) ?_
  exact ⟨keeps_trans k₁ (keeps_toks s₁ 1), b2⟩

theorem ev_rawName {x : Str} {pos : Pos} {v : Value} (h : EvD prog w h₀ C ρ (.Name x pos) (.raw v)) : EvV prog w h₀ C ρ (.Name x pos) v := fun s H =>
  wpAny_mono (h s H) (fun u s' z => ⟨z.1, by cases z.2; rfl⟩) fun _ _ z => z

/-- a call of the class -/
theorem new_intro {fI : Addr} {ob : Obj} {fd : FuncData} {body : List Stmt} {xs : List Str} {n : Nat} {ds : List D} {ns : List Str} {vs' : List D} (KX : K.In h₀) (hm : makesIn K c = true) (hi : findIn K (.ref c) "__init__" = some (some (.ref fI))) (hfn : typeIn K (.ref fI) = some (.type "function"))
    (ho : h₀.get? fI = some ob) (hdata : ob.data = .func fd) (hcd : h₀.CodeRec fd.code fd.qualname) (hlim : h₀.NoLimit)
    (hbody : fd.body = .stmts body) (hclo : fd.closure = []) (hglob : fd.globals = mainGlobals) (hbi : fd.builtins = builtinsNs) (hlen : xs.length = ds.length + 1) (hbind : ∀ vs : List Value, vs.length = xs.length → bindArgs fd ⟨vs, []⟩ = pure (xs.zip vs)) (hok : fnOk fd.scope xs = true)
    (h : ∀ C s₁ x dx, InFn C fd.scope n → Owns h₀ C x dx → Sat h₀ C (xs.zip (.raw (.ref x) :: ds)) s₁ → InstS C c x dx [] [] s₁ →
      wpAny (model prog w) C.A (execs body C.env) (fun f s' => f = .next ∧ KeepsW (fun a => a = dx ∨ C.W a) s₁ s' ∧ InstS C c x dx ns vs' s') no s₁) : FnD prog w h₀ c (n + 2) ds (.obj c ns vs') := fun A X s vs R gens htok top alloc i => by
  obtain ⟨hp, g, dr, tk, os⟩ := s
  have KX' : K.In hp := KX.keeps top
  refine wpAny_call (make_core (makes_of KX' hm) (looks_findIn KX' hi) (fun self => bind_fn KX' self hfn) (.inl rfl) ?_)
  generalize hA : A.under (.builtin "type.__call__" ⟨.ref c :: vs, []⟩) = A'
  have a1 : A'.handled = A.handled := by rw [← hA]; rfl
  have a2 : A'.depth = A.depth + 1 := by rw [← hA]; rfl
  have a3 : A'.units ≤ A.units + 4 := by
    have : (Code.builtin "type.__call__" ⟨.ref c :: vs, []⟩).cUnits ≤ 4 := by
      have e : (Code.builtin "type.__call__" ⟨.ref c :: vs, []⟩).frames = 0 := rfl
      show 1 + 3 * _ ≤ 4
      omega
    rw [← hA]; exact Nat.add_le_add_left this _
  let dx := hp.objs.size
  let x := hp.objs.size + 1
  have hk2 : ∀ b o, hp.get? b = some o → ((hp.push emptyDict).push (instObj c hp.objs.size)).get? b = some o := fun b o e => Heap.get?_push_of_some _ (Heap.get?_push_of_some _ e)
  have gdx : ((hp.push emptyDict).push (instObj c hp.objs.size)).get? dx = some (dictO [] 0) := Heap.get?_push_of_some _ (Heap.get?_push_size hp (o := emptyDict) rfl)
  have gx : ((hp.push emptyDict).push (instObj c hp.objs.size)).get? x = some (instO c dx) := by
    have := Heap.get?_push_size (hp.push emptyDict) (o := instObj c hp.objs.size) rfl
    rw [Heap.size_push] at this
    exact this
  have ndx : hp.get? dx = none := get_none_of_le (Nat.le_refl _)
  have nx : hp.get? x = none := get_none_of_le (Nat.le_succ _)
  refine codeAny_mono (fn_code (n := n) (X := fun a => X a ∨ a = x ∨ a = dx) (ds := .raw (.ref x) :: ds) (A := A') (R₀ := fun r s' => ∃ v, r = .ok (.ret v) ∧ v = .none ∧ Keeps ⟨hp, g, dr, tk, os⟩ s' ∧ Is X s'.heap (.ref x) (.obj c ns vs')) ho hdata hcd hlim hbody hclo hglob hbi hlen hbind hok ⟨a1.trans R.hh, by have := R.depth; omega, by have := R.units; omega⟩ gens (.inl htok) (fun b o e => hk2 b o (top b o e)) ?_ ?_ ?_) ?_
  · rintro a (q | rfl | rfl)
    · obtain ⟨o, e⟩ := alloc a q; exact ⟨o, hk2 _ _ e⟩
    · exact ⟨_, gx⟩
    · exact ⟨_, gdx⟩
  · refine .cons (.raw _) (i.mono fun b o nb e => ⟨?_, hk2 _ _ e⟩)
    have e : hp.get? b = some o := e
    rintro (q | rfl | rfl)
    · exact nb q
    · rw [nx] at e; cases e
    · rw [ndx] at e; cases e
  · intro C s₁ I S k₁ wge hX
    have hwx : ¬ C.W x := fun q => by have := wge x q; rw [show (_ : Option Obj) = _ from this] at gx; cases gx
    have hwd : ¬ C.W dx := fun q => by have := wge dx q; rw [show (_ : Option Obj) = _ from this] at gdx; cases gdx
    have hnd : h₀.get? dx = none := by
      cases e : h₀.get? dx with
      | none => rfl
      | some o => have := top dx o e; rw [show hp.get? dx = _ from this] at ndx; cases ndx
    refine wpAny_mono (h C s₁ x dx I ⟨hnd, (hX x).mpr (.inl (.inr (.inl rfl))), (hX dx).mpr (.inl (.inr (.inr rfl))), hwx, hwd, Nat.succ_ne_self _⟩ S ⟨keeps_get k₁ gx, [], 0, keeps_get k₁ gdx, rfl, .nil⟩) (fun f s' z => ?_) fun _ _ z => z
    obtain ⟨rfl, k₂, b1, es, m, b2, b3, b4⟩ := z
    refine ⟨_, rfl, rfl, ?_, ?_⟩
    · obtain ⟨h1, t1, rfl, l1, e1⟩ := k₁
      obtain ⟨h2, t2, rfl, l2, e2⟩ := k₂
      refine ⟨h2, t2, rfl, Nat.le_trans l1 l2, fun b o e => e2 b o ?_ (e1 b o (hk2 b o e))⟩
      have e : hp.get? b = some o := e
      rintro (rfl | q)
      · rw [ndx] at e; cases e
      · have := wge b q
        have e3 := hk2 b o e
        rw [show (_ : Option Obj) = _ from this] at e3; cases e3
    · refine .obj (fun q => ?_) (fun q => ?_) b1 b2 b3 (b4.less fun a q => (hX a).mpr (.inl (.inl q)))
      · obtain ⟨o, e⟩ := alloc x q; rw [show hp.get? x = _ from e] at nx; cases nx
      · obtain ⟨o, e⟩ := alloc dx q; rw [show hp.get? dx = _ from e] at ndx; cases ndx
  · rintro r s' ⟨v, rfl, rfl, k, z⟩
    exact ⟨rfl, k, z⟩

theorem bi_tuple {ds : List D} (hsz : ds.length ≤ 10000) : BiD prog w h₀ C ρ (.type "tuple") [.list ds] (.tup ds) := fun s vs H i => by
  cases i with
  | cons i r =>
    cases r
    cases i with
    | list ha ho hs =>
      rename_i a us n
      refine call_tuple_list (isList_of ho) (fun h' hk => ?_) (by rw [List.size_toArray, hs.length, sizeLine_eq]; omega)
      have hle : ∀ b o, s.heap.get? b = some o → (h'.push { cls := .type "tuple", data := .seq us.toArray }).get? b = some o := fun b o e => Heap.get?_push_of_some _ (hk b o e)
      refine ⟨keeps_heap hle, .tup ?_ (n := 0) (Heap.get?_push_size _ rfl) (hs.keeps (keeps_heap hle))⟩
      intro q
      obtain ⟨o, e⟩ := H.alloc _ q
      exact Nat.lt_irrefl _ (Heap.lt_size (hk _ _ e))
end
end Mine

set_option Elab.async false
set_option linter.unusedVariables false
set_option linter.unusedSimpArgs false
namespace Mine
open AutoSeq1 (wpAny_loadPart')

theorem tuple_lt_pair (l b : Addr) (p q p' q' : Int) (t u t' u' : Tok) (n n2 : Nat) :
    Meets (Builtin.«tuple.__lt__» ⟨[.ref l, .ref b], []⟩)
      (fun A R s => s.heap.get? l = some { cls := .type "tuple", data := .seq #[.int p t, .int q u] n } ∧ s.heap.get? b = some { cls := .type "tuple", data := .seq #[.int p' t', .int q' u'] n2 } ∧
        R (.ok (.ret (.bool (decide (p < p' ∨ (p = p' ∧ q < q')))))) s) :=
  .of_wp fun prog w A R s h => by
    obtain ⟨hp, g, d, tk, os⟩ := s; obtain ⟨hl, hb, h⟩ := h
    have f2 := AutoSeq1.sub_tuple_tuple
    wp_walk using wpAny_loadPart' hl, wpAny_loadPart' hb, wpAny_forIn_list _ (fun rest b s' => b.1 = none ∧ s' = ⟨hp, g, d, tk, os⟩ ∧ (rest = [(.int p t, .int p' t'), (.int q u, .int q' u')] ∨ (rest = [(.int q u, .int q' u')] ∧ p = p') ∨ (rest = [] ∧ p = p' ∧ q = q'))) _
    case turn =>
      rintro ⟨y, x⟩ rest b s' ⟨hb', rfl, hz⟩
      rcases hz with hz | ⟨hz, e1⟩ | ⟨hz, _⟩
      · injection hz with hyx hrest
        cases hyx
        refine wpAny_bind (SeqAt.EqAt.int_int _ _ _ _ prog w _ _ ?_)
        by_cases e : p = p'
        · rw [beq_iff_eq.mpr e]
          exact wpAny_pure ⟨rfl, rfl, .inr (.inl ⟨hrest, e⟩)⟩
        · rw [beq_eq_false_iff_ne.mpr e]
          have e2 : decide (p < p' ∨ (p = p' ∧ q < q')) = decide (p < p') := by simp [e]
          rw [e2] at h
          refine wpAny_bind (wpAny_rule (wpAny_bind ?_))
          show wpAny _ _ (compareOp .Lt (.int p t) (.int p' t')) _ _ _
          exact PyProof.Rows.lt_int (wpAny_bind (wpAny_pure (wpAny_pure (wpAny_pure ⟨_, rfl, h⟩))))
      · injection hz with hyx hrest
        cases hyx
        refine wpAny_bind (SeqAt.EqAt.int_int _ _ _ _ prog w _ _ ?_)
        by_cases e : q = q'
        · rw [beq_iff_eq.mpr e]
          exact wpAny_pure ⟨rfl, rfl, .inr (.inr ⟨hrest, e1, e⟩)⟩
        · rw [beq_eq_false_iff_ne.mpr e]
          have e2 : decide (p < p' ∨ (p = p' ∧ q < q')) = decide (q < q') := by simp [e1]
          rw [e2] at h
          refine wpAny_bind (wpAny_rule (wpAny_bind ?_))
          show wpAny _ _ (compareOp .Lt (.int q u) (.int q' u')) _ _ _
          exact PyProof.Rows.lt_int (wpAny_bind (wpAny_pure (wpAny_pure (wpAny_pure ⟨_, rfl, h⟩))))
      · cases hz
    case fin =>
      rintro ⟨b1, b2⟩ s' ⟨hb', rfl, hz⟩
      simp only at hb'
      subst hb'
      rcases hz with hz | ⟨hz, _⟩ | ⟨_, e1, e2⟩
      · cases hz
      · cases hz
      · have e3 : decide (p < p' ∨ (p = p' ∧ q < q')) = false := by simp [e1, e2]
        rw [e3] at h
        exact wpAny_pure ⟨_, rfl, h⟩
    case h => exact ⟨rfl, rfl, .inl rfl⟩

section
variable {prog : Program} {w : World} {h₀ : Heap} {C : Cx} {ρ : Vs}
theorem cmp_lt_pair {n : Nat} (R : Room C.A n) {p q p' q' : Int} : CmpD prog w h₀ C ρ .Lt (.tup [.int p, .int q]) (.tup [.int p', .int q']) (decide (p < p' ∨ (p = p' ∧ q < q'))) := fun va vb s H ia ib => by
  cases ia with
  | tup a1 a2 a3 =>
    cases ib with
    | tup b1 b2 b3 =>
      obtain ⟨v, u, rfl, i1, i2⟩ := a3.two
      obtain ⟨v', u', rfl, j1, j2⟩ := b3.two
      obtain ⟨t, rfl⟩ := i1.int_inv; obtain ⟨u, rfl⟩ := i2.int_inv
      obtain ⟨t', rfl⟩ := j1.int_inv; obtain ⟨u', rfl⟩ := j2.int_inv
      exact richCompare_meets_room (op := .Lt) ⟨_, a2, rfl⟩ ⟨_, b2, rfl⟩ F.slot_tuple_lt F.entry_tuple_lt (F.args_tuple_lt_2 _ _) (tuple_lt_pair _ _ p q p' q' t u t' u' _ _)
        ⟨a2, b2, (fun x => nomatch x), keeps_refl s, .bool _⟩ (by have := R.units; omega)
end
end Mine

set_option Elab.async false
set_option linter.unusedVariables false
set_option linter.unusedSimpArgs false
namespace Mine
open PySem.Sre PySem.Builtin.Re

theorem runFor_halted {m : M} (h : m.outcome.isSome = true) : ∀ n, M.runFor n m = m
  | 0 => rfl
  | n + 1 => by unfold M.runFor; rw [if_pos h]
theorem runFor_succ {m : M} (h : m.outcome.isSome = false) (n : Nat) : M.runFor (n + 1) m = M.runFor n m.step := by
  show (if m.outcome.isSome = true then m else M.runFor n m.step) = _
  rw [if_neg (by rw [h]; exact Bool.false_ne_true)]
theorem runFor_add (a b : Nat) (m : M) : M.runFor (a + b) m = M.runFor b (M.runFor a m) := by
  induction a generalizing m with
  | zero => rw [Nat.zero_add]; rfl
  | succ a ih =>
    rw [Nat.succ_add]
    cases h : m.outcome.isSome with
    | true => rw [runFor_halted h, runFor_halted h, runFor_halted h]
    | false => rw [runFor_succ h, runFor_succ h, ih]

/-- m comes to its end at m' within n steps -/
def Ends (n : Nat) (m m' : M) : Prop := M.runFor n m = m' ∧ m'.outcome.isSome = true
theorem Ends.step {n : Nat} {m m₁ m' : M} (h : Ends n m₁ m') (ho : m.outcome = none) (e : m.step = m₁) : Ends (n + 1) m m' :=
  ⟨by rw [runFor_succ (by rw [ho]; rfl), e]; exact h.1, h.2⟩
theorem Ends.more {n k : Nat} {m m' : M} (h : Ends n m m') (l : n ≤ k) : Ends k m m' := by
  obtain ⟨j, rfl⟩ := Nat.exists_eq_add_of_le l
  exact ⟨by rw [runFor_add, h.1, runFor_halted h.2], h.2⟩

section
variable {Md : Model} {A : Around} {E : Value → Shared → Prop} {s : Shared}
theorem drive : ∀ (t : Nat) (n : Nat) (m m' : M) (Q : M → Shared → Prop), Ends n m m' → n ≤ t → 0 < t → Q m' s → wpAny Md A (reDrive t m) Q E s
  | 0, n, m, m', Q, h, l, p, q => absurd p (Nat.lt_irrefl _)
  | t + 1, n, m, m', Q, h, l, p, q => by
    unfold reDrive
    by_cases h4 : (m.runFor reTurnSteps).outcome.isSome = true
    · have e : m.runFor reTurnSteps = m' := by
        rcases Nat.le_total n reTurnSteps with z | z
        · exact (h.more z).1
        · obtain ⟨j, rfl⟩ := Nat.exists_eq_add_of_le z
          have := h.1
          rw [runFor_add, runFor_halted h4] at this
          exact this
      show wpAny Md A (if (m.runFor reTurnSteps).outcome.isSome = true then pure (m.runFor reTurnSteps) else do rule "sre.turn"; reDrive t (m.runFor reTurnSteps)) Q E s
      rw [if_pos h4, e]
      exact wpAny_pure q
    · have z : reTurnSteps ≤ n := by
        rcases Nat.le_total n reTurnSteps with z | z
        · rw [(h.more z).1] at h4; exact absurd h.2 h4
        · exact z
      obtain ⟨j, rfl⟩ := Nat.exists_eq_add_of_le z
      have h' : Ends j (m.runFor reTurnSteps) m' := ⟨by rw [← runFor_add]; exact h.1, h.2⟩
      have hj : 0 < j := by
        rcases Nat.eq_zero_or_pos j with q | q
        · subst q; have e : m.runFor reTurnSteps = m' := h'.1; rw [e] at h4; exact absurd h.2 h4
        · exact q
      show wpAny Md A (if (m.runFor reTurnSteps).outcome.isSome = true then pure (m.runFor reTurnSteps) else do rule "sre.turn"; reDrive t (m.runFor reTurnSteps)) Q E s
      rw [if_neg h4]
      have : reTurnSteps = 4 := rfl
      exact wpAny_bind (wpAny_rule (drive t j _ m' Q h' (by omega) (by omega) q))

theorem ruleLoop (m : M) {Q : PUnit → Shared → Prop} (q : Q ⟨⟩ s) : wpAny Md A (forIn (List.range Sre.names.size) PUnit.unit fun i (r : PUnit) => (do
    if m.seen.has i = true then do rule (Sre.names.getD i ""); pure (ForInStep.yield PUnit.unit) else pure (ForInStep.yield PUnit.unit) : Sem (ForInStep PUnit))) Q E s := by
  refine wpAny_forIn_list _ (fun _ _ s' => s' = s) _ (fun x rest b s' e => ?_) (fun b s' e => by cases b; rw [e]; exact q) _ _ rfl
  subst e
  split
  · exact wpAny_bind (wpAny_rule (wpAny_pure rfl))
  · exact wpAny_pure rfl

theorem toEnd {n : Nat} {m m' : M} {Q : Option M → Shared → Prop} (h : Ends n m m') (l : n ≤ 2 ^ 64) (hm : m'.outcome = some .matched → Q (some m') s) (hf : m'.outcome = some .failed → Q none s)
    (hs : ∀ why, m'.outcome ≠ some (.stuck why)) : wpAny Md A (reRunToEnd m) Q E s := by
  unfold reRunToEnd
  refine wpAny_bind (drive (2 ^ 64) n m m' _ h l (Nat.two_pow_pos 64) ?_)
  refine wpAny_bind ?_
  refine ruleLoop m' ?_
  cases ho : m'.outcome with
  | none => have := h.2; rw [ho] at this; cases this
  | some o =>
    cases o with
    | matched => exact wpAny_pure (hm ho)
    | failed => exact wpAny_pure (hf ho)
    | stuck why => exact absurd ho (hs why)
end
end Mine

set_option Elab.async false
set_option linter.unusedVariables false
set_option linter.unusedSimpArgs false
set_option maxRecDepth 10000
namespace Mine
open PySem.Sre PySem.Builtin.Re

/-- a dot at a line's start -/
def dotCode : Array Nat := #[14, 4, 0, 1, 1, 6, 1, 16, 46, 1]

def st1 (text : Array Nat) (s : Nat) (first : Bool) (seen : Sre.Seen) : M :=
  { code := dotCode, text, lim := text.size, start := s, lastStart := text.size, pc := 5, pos := s, handed := s, outermost := first, marks := #[], seen,
    frames := [{ wait := .nextStart, pc := 5, pos := s, outermost := first }], weight := 1 }
def dotAt (text : Array Nat) (s : Nat) : Bool := (s == 0 || text.getD (s - 1) 0 == 10) && decide (s < text.size) && text.getD s 0 == 46

theorem st1_at (text : Array Nat) (s : Nat) (first : Bool) (seen : Sre.Seen) :
    (st1 text s first seen).step = if (s == 0 || text.getD (s - 1) 0 == 10) = true then { st1 text s first ((seen.add 6).add 44) with pc := 7 } else (st1 text s first ((seen.add 6).add 44)).say false := rfl
theorem st1_lit (text : Array Nat) (s : Nat) (first : Bool) (seen : Sre.Seen) :
    ({ st1 text s first seen with pc := 7 } : M).step = if s ≥ text.size then ({ st1 text s first (seen.add 16) with pc := 7 } : M).say false else
      (match (text.getD s 0 == 46) with | false => ({ st1 text s first (seen.add 16) with pc := 7 } : M).say false | true => { st1 text s first (seen.add 16) with pc := 9, pos := s + 1 }) := by
  show (if s ≥ text.size then _ else _) = _
  split
  · rfl
  · show (match (Except.ok (text.getD s 0 == 46, seen.add 16) : Except String (Bool × Sre.Seen)) with | .error why => _ | .ok (false, seen) => _ | .ok (true, seen) => _) = _
    cases (text.getD s 0 == 46) <;> rfl
theorem st1_fail (text : Array Nat) (s pc : Nat) (first : Bool) (seen : Sre.Seen) :
    (({ st1 text s first seen with pc := pc } : M).say false).step = if s < text.size then st1 text (s + 1) false seen else ({ st1 text s first seen with pc := 5, frames := [], weight := 0 } : M).say false := rfl
theorem st1_over (text : Array Nat) (s : Nat) (first : Bool) (seen : Sre.Seen) :
    (({ st1 text s first seen with pc := 5, frames := [], weight := 0 } : M).say false).step = { ({ st1 text s first seen with pc := 5, frames := [], weight := 0 } : M).say false with outcome := some .failed } := rfl
theorem st1_succ (text : Array Nat) (s : Nat) (first : Bool) (seen : Sre.Seen) :
    ({ st1 text s first seen with pc := 9, pos := s + 1 } : M).step = ({ st1 text s first (seen.add 1) with pc := 9, pos := s + 1, handed := s + 1 } : M).say true := by
  show (if (first && ((false && _) || (false && _))) = true then _ else _) = _
  cases first <;> rfl
theorem st1_win (text : Array Nat) (s : Nat) (first : Bool) (seen : Sre.Seen) :
    (({ st1 text s first seen with pc := 9, pos := s + 1, handed := s + 1 } : M).say true).step = ({ st1 text s first seen with handed := s + 1, frames := [], weight := 0 } : M).say true := rfl
theorem st1_won (text : Array Nat) (s : Nat) (first : Bool) (seen : Sre.Seen) :
    (({ st1 text s first seen with handed := s + 1, frames := [], weight := 0 } : M).say true).step = { ({ st1 text s first seen with handed := s + 1, frames := [], weight := 0 } : M).say true with outcome := some .matched } := rfl

/-- where the next dot at a line's start stands -/
def nextDot (text : Array Nat) : Nat → Nat → Option Nat
  | 0, _ => none
  | n + 1, s => if dotAt text s then some s else nextDot text n (s + 1)

theorem search1 (text : Array Nat) : ∀ (n s : Nat) (first : Bool) (seen : Sre.Seen), s + n = text.size → ∃ m' k, k ≤ 5 * n + 5 ∧ Ends k (st1 text s first seen) m' ∧
    match nextDot text n s with
    | some p => m'.outcome = some .matched ∧ m'.start = p ∧ m'.handed = p + 1
    | none => m'.outcome = some .failed
  | 0, s, first, seen, e => by
    have hs : s = text.size := by omega
    have hn : ¬ s < text.size := by omega
    -- no sign is left: the test, or the sign, fails
    have fin : ∀ (pc : Nat) (seen : Sre.Seen), ∃ m' k, k ≤ 2 ∧ Ends k (({ st1 text s first seen with pc := pc } : M).say false) m' ∧ m'.outcome = some .failed := fun pc seen => by
      exact ⟨_, 2, Nat.le_refl _, Ends.step (n := 1) (Ends.step (n := 0) ⟨rfl, rfl⟩ rfl (st1_over text s first seen)) rfl ((st1_fail text s pc first seen).trans (if_neg hn)), rfl⟩
    by_cases ha : (s == 0 || text.getD (s - 1) 0 == 10) = true
    · obtain ⟨m', k, hk, he, ho⟩ := fin 7 (((seen.add 6).add 44).add 16)
      refine ⟨m', k + 2, by omega, ?_, ho⟩
      refine Ends.step (n := k + 1) ?_ rfl ((st1_at text s first seen).trans (if_pos ha))
      refine Ends.step (n := k) he rfl ((st1_lit text s first _).trans (if_pos (by omega)))
    · obtain ⟨m', k, hk, he, ho⟩ := fin 5 ((seen.add 6).add 44)
      exact ⟨m', k + 1, by omega, Ends.step he rfl ((st1_at text s first seen).trans (if_neg ha)), ho⟩
  | n + 1, s, first, seen, e => by
    have hs : s < text.size := by omega
    have go : ∀ (pc : Nat) (seen : Sre.Seen), dotAt text s = false → ∃ m' k, k ≤ 5 * n + 6 ∧ Ends k (({ st1 text s first seen with pc := pc } : M).say false) m' ∧
        match nextDot text (n + 1) s with
        | some p => m'.outcome = some .matched ∧ m'.start = p ∧ m'.handed = p + 1
        | none => m'.outcome = some .failed := fun pc seen hd => by
      obtain ⟨m', k, hk, he, ho⟩ := search1 text n (s + 1) false seen (by omega)
      refine ⟨m', k + 1, by omega, Ends.step he rfl ((st1_fail text s pc first seen).trans (if_pos hs)), ?_⟩
      unfold nextDot
      rw [hd]
      exact ho
    by_cases ha : (s == 0 || text.getD (s - 1) 0 == 10) = true
    · by_cases hc : (text.getD s 0 == 46) = true
      · have hd : dotAt text s = true := by unfold dotAt; rw [ha, hc]; simp [hs]
        refine ⟨_, 5, by omega, Ends.step (n := 4) (Ends.step (n := 3) (Ends.step (n := 2) (Ends.step (n := 1) (Ends.step (n := 0) ⟨rfl, rfl⟩ rfl (st1_won text s first ((((seen.add 6).add 44).add 16).add 1))) rfl (st1_win text s first ((((seen.add 6).add 44).add 16).add 1))) rfl (st1_succ text s first (((seen.add 6).add 44).add 16))) rfl ((st1_lit text s first ((seen.add 6).add 44)).trans ?_)) rfl ((st1_at text s first seen).trans (if_pos ha)), ?_⟩
        · rw [if_neg (by omega), hc]
        · unfold nextDot
          rw [hd]
          exact ⟨rfl, rfl, rfl⟩
      · have hd : dotAt text s = false := by unfold dotAt; rw [Bool.not_eq_true] at hc; rw [hc, Bool.and_false]
        obtain ⟨m', k, hk, he, ho⟩ := go 7 (((seen.add 6).add 44).add 16) hd
        refine ⟨m', k + 2, by omega, Ends.step (n := k + 1) (Ends.step (n := k) he rfl ((st1_lit text s first _).trans ?_)) rfl ((st1_at text s first seen).trans (if_pos ha)), ho⟩
        rw [Bool.not_eq_true] at hc
        rw [if_neg (by omega), hc]
    · have hd : dotAt text s = false := by unfold dotAt; rw [Bool.not_eq_true] at ha; rw [ha, Bool.false_and, Bool.false_and]
      obtain ⟨m', k, hk, he, ho⟩ := go 5 ((seen.add 6).add 44) hd
      exact ⟨m', k + 1, by omega, Ends.step he rfl ((st1_at text s first seen).trans (if_neg ha)), ho⟩

theorem forSearch1 (text : Array Nat) (s : Nat) (hs : s ≤ text.size) : ∃ m' k, k ≤ 5 * text.size + 5 ∧ Ends k (forSearch dotCode text 0 s text.size false) m' ∧
    match nextDot text (text.size - s) s with
    | some p => m'.outcome = some .matched ∧ m'.start = p ∧ m'.handed = p + 1
    | none => m'.outcome = some .failed := by
  rcases Nat.lt_or_ge s text.size with h | h
  · obtain ⟨m', k, hk, he, ho⟩ := search1 text (text.size - s) s true (({} : Sre.Seen).add 14) (by omega)
    refine ⟨m', k, by omega, ?_, ho⟩
    have : forSearch dotCode text 0 s text.size false = st1 text s true (({} : Sre.Seen).add 14) := by
      show (if (decide (s > text.size) || decide (text.size - s < 1)) = true then _ else _) = _
      rw [if_neg (by simp; omega)]
      rfl
    rw [this]; exact he
  · have e : s = text.size := by omega
    subst e
    have hz : text.size - text.size = 0 := by omega
    rw [hz]
    have : forSearch dotCode text 0 text.size text.size false = ({ code := dotCode, text, lim := text.size, start := text.size, pc := 5, pos := text.size, handed := text.size, marks := #[], seen := ({} : Sre.Seen).add 14 } : M).say false := by
      show (if (decide (text.size > text.size) || decide (text.size - text.size < 1)) = true then _ else _) = _
      rw [if_pos (by simp)]
      rfl
    rw [this]
    exact ⟨_, 1, by omega, Ends.step (n := 0) ⟨rfl, rfl⟩ rfl rfl, rfl⟩
end Mine

set_option Elab.async false
set_option linter.unusedVariables false
set_option linter.unusedSimpArgs false
set_option maxRecDepth 10000
namespace Mine
open PySem.Sre PySem.Builtin.Re

/-- a line's end: CR LF, LF, or CR with no LF behind it -/
def nlCode : Array Nat := #[14, 9, 4, 1, 2, 16, 10, 16, 13, 0, 7, 7, 16, 13, 16, 10, 15, 18, 5, 16, 10, 15, 13, 11, 16, 13, 5, 5, 0, 16, 10, 1, 15, 2, 0, 1]

def mk2 (text : Array Nat) (p pc pos handed : Nat) (om : Bool) (frames : List Sre.Frame) (weight : Nat) (ans : Option Bool) (seen : Sre.Seen) : M :=
  { code := nlCode, text, lim := text.size, start := p, lastStart := text.size, pc, pos, handed, outermost := om, marks := #[], seen, frames, weight, answer := ans }
def fr (w : Wait) (pc pos : Nat) (om : Bool) : Sre.Frame := { wait := w, pc, pos, outermost := om }

section
variable {text : Array Nat} {p pos handed weight n : Nat} {om : Bool} {frames : List Sre.Frame} {seen : Sre.Seen} {m' : M}

/-- m ends in a match from p to e -/
def Wins (n : Nat) (m : M) (p e : Nat) : Prop := ∃ m', Ends n m m' ∧ m'.outcome = some .matched ∧ m'.start = p ∧ m'.handed = e
theorem Wins.step {n : Nat} {m m₁ : M} {p e : Nat} (h : Wins n m₁ p e) (ho : m.outcome = none) (q : m.step = m₁) : Wins (n + 1) m p e := by
  obtain ⟨m', a, b⟩ := h
  exact ⟨m', a.step ho q, b⟩
theorem Wins.more {n k : Nat} {m : M} {p e : Nat} (h : Wins n m p e) (l : n ≤ k) : Wins k m p e := by
  obtain ⟨m', a, b⟩ := h
  exact ⟨m', a.more l, b⟩
theorem wins_now {f : Sre.Frame} {e : Nat} (hf : f.wait = .nextStart) : Wins 2 (mk2 text p n pos e om [f] weight (some true) seen) p e := by
  obtain ⟨w, a, b, c, d, k, l, bg⟩ := f
  simp only at hf
  subst hf
  exact Wins.step (n := 1) (Wins.step (n := 0) ⟨_, ⟨rfl, rfl⟩, rfl, rfl, rfl⟩ rfl rfl) rfl rfl
theorem wins_branch {f g : Sre.Frame} {e : Nat} (hf : f.wait = .nextStart) (hg : g.wait = .nextBranch) : Wins 3 (mk2 text p n pos e om [g, f] weight (some true) seen) p e := by
  obtain ⟨w, a, b, c, d, k, l, bg⟩ := g
  simp only at hg
  subst hg
  exact Wins.step (n := 2) (wins_now hf) rfl rfl

theorem lit_ok {pc c : Nat} (hpc : pc < 36) (hop : nlCode.getD pc 0 = 16) (hw : nlCode.getD (pc + 1) 0 = c) (hp : pos < text.size) (hc : text.getD pos 0 = c) :
    (mk2 text p pc pos handed om frames weight none seen).step = mk2 text p (pc + 2) (pos + 1) handed om frames weight none (seen.add 16) := by
  have e1 : ∀ m : M, m = mk2 text p pc pos handed om frames weight none seen → m.step = m.exec := fun m hm => by
    subst hm
    show (if pc < 36 then _ else _) = _
    rw [if_pos hpc]
  rw [e1 _ rfl]
  unfold M.exec
  have hw0 : (mk2 text p pc pos handed om frames weight none seen).word 0 = 16 := hop
  rw [hw0]
  show (if pos ≥ text.size then _ else _) = _
  rw [if_neg (by omega)]
  have ha : accepts nlCode pc (text.getD pos 0) (seen.add 16) = .ok (text.getD pos 0 == nlCode.getD (pc + 1) 0, seen.add 16) := by unfold accepts; rw [hop]; rfl
  show (match accepts nlCode pc (text.getD pos 0) (seen.add 16) with | .error why => _ | .ok (false, seen) => _ | .ok (true, seen) => _) = _
  rw [ha, hw, hc, beq_self_eq_true]
  have hi : itemWidth nlCode pc = 2 := by unfold itemWidth; rw [hop]; rfl
  show mk2 text p (pc + itemWidth nlCode pc) (pos + 1) handed om frames weight none (seen.add 16) = _
  rw [hi]
theorem lit_no {pc c : Nat} (hpc : pc < 36) (hop : nlCode.getD pc 0 = 16) (hw : nlCode.getD (pc + 1) 0 = c) (hc : text.size ≤ pos ∨ text.getD pos 0 ≠ c) :
    (mk2 text p pc pos handed om frames weight none seen).step = mk2 text p pc pos handed om frames weight (some false) (seen.add 16) := by
  have e1 : ∀ m : M, m = mk2 text p pc pos handed om frames weight none seen → m.step = m.exec := fun m hm => by
    subst hm
    show (if pc < 36 then _ else _) = _
    rw [if_pos hpc]
  rw [e1 _ rfl]
  unfold M.exec
  have hw0 : (mk2 text p pc pos handed om frames weight none seen).word 0 = 16 := hop
  rw [hw0]
  show (if pos ≥ text.size then _ else _) = _
  by_cases hp : pos ≥ text.size
  · rw [if_pos hp]; rfl
  · rw [if_neg hp]
    have ha : accepts nlCode pc (text.getD pos 0) (seen.add 16) = .ok (text.getD pos 0 == nlCode.getD (pc + 1) 0, seen.add 16) := by unfold accepts; rw [hop]; rfl
    show (match accepts nlCode pc (text.getD pos 0) (seen.add 16) with | .error why => _ | .ok (false, seen) => _ | .ok (true, seen) => _) = _
    have hb : (text.getD pos 0 == nlCode.getD (pc + 1) 0) = false := by rw [hw]; simpa using hc.resolve_left hp
    rw [ha, hb]
    rfl
theorem succ_ok {frames : List Sre.Frame} : (mk2 text p 35 pos handed om frames weight none seen).step = mk2 text p 35 pos pos om frames weight (some true) (seen.add 1) := by
  show (if (om && ((false && _) || (false && _))) = true then _ else _) = _
  cases om <;> rfl

theorem nl_wins (first : Bool) (seen : Sre.Seen) (hp : p < text.size) (hc : text.getD p 0 = 10 ∨ text.getD p 0 = 13) :
    Wins 20 (mk2 text p 10 p p first [fr .nextStart 10 p first] 1 none seen) p (if text.getD p 0 = 13 ∧ p + 1 < text.size ∧ text.getD (p + 1) 0 = 10 then p + 2 else p + 1) := by
  have kick : ∀ {n e : Nat}, (∀ seen, Wins n (mk2 text p 12 p p first [fr .nextBranch 11 p first, fr .nextStart 10 p first] 2 none seen) p e) → Wins (n + 1) (mk2 text p 10 p p first [fr .nextStart 10 p first] 1 none seen) p e :=
    fun h => Wins.step (h _) rfl rfl
  have alt2 : ∀ {n e pos hd : Nat} {seen : Sre.Seen}, (∀ seen, Wins n (mk2 text p 19 p p first [fr .nextBranch 18 p first, fr .nextStart 10 p first] 2 none seen) p e) →
      Wins (n + 1) (mk2 text p pos hd p first [fr .nextBranch 11 p first, fr .nextStart 10 p first] 2 (some false) seen) p e := fun h => Wins.step (h _) rfl rfl
  have alt3 : ∀ {n e pos hd : Nat} {seen : Sre.Seen}, (∀ seen, Wins n (mk2 text p 24 p p first [fr .nextBranch 23 p first, fr .nextStart 10 p first] 2 none seen) p e) →
      Wins (n + 1) (mk2 text p pos hd p first [fr .nextBranch 18 p first, fr .nextStart 10 p first] 2 (some false) seen) p e := fun h => Wins.step (h _) rfl rfl
  have fin : ∀ {k e hd wt : Nat} {seen : Sre.Seen} {g : Sre.Frame}, g.wait = .nextBranch → Wins 4 (mk2 text p 35 e hd first [g, fr .nextStart 10 p first] wt none seen) p e := fun hg =>
    Wins.step (n := 3) (wins_branch rfl hg) rfl succ_ok
  rcases hc with hc | hc
  · rw [if_neg (by rw [hc]; rintro ⟨q, _⟩; cases q)]
    refine Wins.more (n := 9) (kick (n := 8) fun seen => Wins.step (n := 7) (alt2 (n := 6) fun seen => Wins.step (n := 5) (Wins.step (n := 4) (fin (k := 0) rfl) rfl rfl) rfl (lit_ok (by decide) rfl rfl hp hc)) rfl (lit_no (by decide) rfl rfl (.inr (by rw [hc]; decide)))) (by decide)
  · by_cases hn : p + 1 < text.size ∧ text.getD (p + 1) 0 = 10
    · rw [if_pos ⟨hc, hn⟩]
      refine Wins.more (n := 8) (kick (n := 7) fun seen => Wins.step (n := 6) (Wins.step (n := 5) (Wins.step (n := 4) (fin (k := 0) rfl) rfl rfl) rfl (lit_ok (pc := 14) (c := 10) (by decide) rfl rfl hn.1 hn.2)) rfl (lit_ok (pc := 12) (c := 13) (by decide) rfl rfl hp hc)) (by decide)
    · rw [if_neg fun q => hn q.2]
      have hn' : text.size ≤ p + 1 ∨ text.getD (p + 1) 0 ≠ 10 := by
        rcases Nat.lt_or_ge (p + 1) text.size with q | q
        · exact .inr fun z => hn ⟨q, z⟩
        · exact .inl q
      refine Wins.more (n := 15) (kick (n := 14) fun seen => Wins.step (n := 13) (Wins.step (n := 12) (alt2 (n := 11) fun seen => Wins.step (n := 10) (alt3 (n := 9) fun seen => Wins.step (n := 8) (Wins.step (n := 7) (m₁ := mk2 text p 29 (p + 1) (p + 1) false [fr .lookNot 26 (p + 1) first, fr .nextBranch 23 p first, fr .nextStart 10 p first] 3 none _)
        (Wins.step (n := 6) (Wins.step (n := 5) (m₁ := mk2 text p 32 (p + 1) (p + 1) first [fr .nextBranch 23 p first, fr .nextStart 10 p first] 2 none _) (Wins.step (n := 4) (fin (k := 0) rfl) rfl rfl) rfl rfl) rfl (lit_no (by decide) rfl rfl hn')) rfl rfl) rfl (lit_ok (by decide) rfl rfl hp hc))
        rfl (lit_no (by decide) rfl rfl (.inr (by rw [hc]; decide)))) rfl (lit_no (by decide) rfl rfl hn')) rfl (lit_ok (by decide) rfl rfl hp hc)) (by decide)

/-- where the next line's end stands -/
def nextNl (text : Array Nat) : Nat → Nat → Option Nat
  | 0, _ => none
  | n + 1, s => if text.getD s 0 = 10 ∨ text.getD s 0 = 13 then some s else nextNl text n (s + 1)
def nlEnd (text : Array Nat) (p : Nat) : Nat := if text.getD p 0 = 13 ∧ p + 1 < text.size ∧ text.getD (p + 1) 0 = 10 then p + 2 else p + 1
theorem nextNl_spec (text : Array Nat) : ∀ (n s p : Nat), nextNl text n s = some p → (text.getD p 0 = 10 ∨ text.getD p 0 = 13) ∧ s ≤ p ∧ p < s + n
  | 0, s, p, h => by cases h
  | n + 1, s, p, h => by
    unfold nextNl at h
    split at h
    · cases h; exact ⟨‹_›, Nat.le_refl _, by omega⟩
    · obtain ⟨a, b, c⟩ := nextNl_spec text n (s + 1) p h
      exact ⟨a, by omega, by omega⟩

theorem inSet_nl (c : Nat) (seen : Sre.Seen) : ∃ seen', inSet nlCode c nlCode.size 5 true seen = .ok (decide (c = 10 ∨ c = 13), seen') := by
  show ∃ seen', (if (c == 10) = true then (.ok (true, _) : Except String (Bool × Sre.Seen)) else (if (c == 13) = true then .ok (true, _) else .ok (false, _))) = _
  by_cases h1 : c = 10
  · subst h1; exact ⟨_, rfl⟩
  · rw [if_neg (by simpa using h1)]
    by_cases h2 : c = 13
    · subst h2; exact ⟨_, rfl⟩
    · rw [if_neg (by simpa using h2)]
      exact ⟨_, by rw [decide_eq_false (by rintro (q | q); exact h1 q; exact h2 q)]⟩
theorem admitted_nl (m : M) (hm : m.code = nlCode) (ht : m.text = text) (hl : m.lim = text.size) : ∀ (n s : Nat) (seen : Sre.Seen), s + n = text.size → ∃ seen', M.admitted m (n + 1) s seen = .ok (nextNl text n s, seen')
  | 0, s, seen, e => by
    unfold M.admitted
    rw [if_pos (by rw [hl]; omega)]
    exact ⟨_, rfl⟩
  | n + 1, s, seen, e => by
    unfold M.admitted
    rw [if_neg (by rw [hl]; omega), hm, ht]
    obtain ⟨q, hq⟩ := inSet_nl (text.getD s 0) seen
    rw [hq]
    unfold nextNl
    by_cases h : text.getD s 0 = 10 ∨ text.getD s 0 = 13
    · rw [if_pos h, decide_eq_true h]; exact ⟨_, rfl⟩
    · rw [if_neg h, decide_eq_false h]
      exact admitted_nl m hm ht hl n (s + 1) q (by omega)

theorem forSearch2 (text : Array Nat) (s : Nat) (hs : s ≤ text.size) : ∃ m' k, k ≤ 25 ∧ Ends k (forSearch nlCode text 0 s text.size false) m' ∧
    match nextNl text (text.size - s) s with
    | some p => m'.outcome = some .matched ∧ m'.start = p ∧ m'.handed = nlEnd text p
    | none => m'.outcome = some .failed := by
  rcases Nat.lt_or_ge s text.size with h | h
  · have e0 : forSearch nlCode text 0 s text.size false = M.attemptFrom ({ code := nlCode, text, lim := text.size, start := s, lastStart := text.size, pc := 10, pos := s, handed := s, marks := #[], seen := ({} : Sre.Seen).add 14 } : M) s true := by
      show (if (decide (s > text.size) || decide (text.size - s < 1)) = true then _ else _) = _
      rw [if_neg (by simp; omega)]
      rfl
    rw [e0]
    obtain ⟨seen', ha⟩ := admitted_nl (text := text) ({ code := nlCode, text, lim := text.size, start := s, lastStart := text.size, pc := 10, pos := s, handed := s, marks := #[], seen := ({} : Sre.Seen).add 14 } : M) rfl rfl rfl (text.size - s) s (({} : Sre.Seen).add 14) (by omega)
    have e1 : ∀ r seen', M.admitted ({ code := nlCode, text, lim := text.size, start := s, lastStart := text.size, pc := 10, pos := s, handed := s, marks := #[], seen := ({} : Sre.Seen).add 14 } : M) (text.size + 1 - s) s (({} : Sre.Seen).add 14) = .ok (r, seen') →
        M.attemptFrom ({ code := nlCode, text, lim := text.size, start := s, lastStart := text.size, pc := 10, pos := s, handed := s, marks := #[], seen := ({} : Sre.Seen).add 14 } : M) s true = match r with
          | some p => mk2 text p 10 p p true [fr .nextStart 10 p true] 1 none seen'
          | none => mk2 text s 10 s s true [] 0 (some false) seen' := fun r seen' hr => by
      show (match M.admitted ({ code := nlCode, text, lim := text.size, start := s, lastStart := text.size, pc := 10, pos := s, handed := s, marks := #[], seen := ({} : Sre.Seen).add 14 } : M) (text.size + 1 - s) s (({} : Sre.Seen).add 14) with | .ok (some s, seen) => _ | .ok (none, seen) => _ | .error why => _) = _
      rw [hr]
      cases r <;> rfl
    rw [show text.size - s + 1 = text.size + 1 - s by omega] at ha
    rw [e1 _ _ ha]
    cases hn : nextNl text (text.size - s) s with
    | none => exact ⟨_, 1, by omega, Ends.step (n := 0) ⟨rfl, rfl⟩ rfl rfl, rfl⟩
    | some p =>
      obtain ⟨h1, h2, h3⟩ := nextNl_spec text _ _ _ hn
      obtain ⟨m', he, ho⟩ := nl_wins (p := p) (text := text) true seen' (by omega) h1
      exact ⟨m', 20, by omega, he, ho⟩
  · have e : s = text.size := by omega
    subst e
    have hz : text.size - text.size = 0 := by omega
    rw [hz]
    have : forSearch nlCode text 0 text.size text.size false = ({ code := nlCode, text, lim := text.size, start := text.size, pc := 10, pos := text.size, handed := text.size, marks := #[], seen := ({} : Sre.Seen).add 14 } : M).say false := by
      show (if (decide (text.size > text.size) || decide (text.size - text.size < 1)) = true then _ else _) = _
      rw [if_pos (by simp)]
      rfl
    rw [this]
    exact ⟨_, 1, by omega, Ends.step (n := 0) ⟨rfl, rfl⟩ rfl rfl, rfl⟩
end
end Mine

set_option Elab.async false
set_option linter.unusedVariables false
set_option linter.unusedSimpArgs false
set_option maxRecDepth 100000
namespace Mine
open PySem.Sre PySem.Builtin.Re PySem.Builtin

theorem pattern_attrs : PlainAttrs "re.Pattern" :=
  ⟨⟨"object.__getattribute__", by rw [typeLookup_type, builtinLookup_eq_fast]; kernel_rfl, by decide +kernel⟩, by rw [typeLookup_type, builtinLookup_eq_fast]; kernel_rfl⟩
theorem pattern_owner : Manifest.owners.lookup (String.ofList ['n', 'r', 'e', 't', 't', 'a', 'P', '.', 'e', 'r'].reverse) = some Manifest.sig_re_Pattern := by kernel_rfl
theorem slot_sub : Slot "re.Pattern" "sub" "re.Pattern.sub" :=
  .of (owner := "re.Pattern") (n := "sub") (by rw [typeLookup_type, builtinLookup_eq_fast]; kernel_rfl) (by decide +kernel) (by decide +kernel) (by decide +kernel)
    (by first | exact .inl (by decide +kernel) | exact .inr (by decide +kernel)) (by rw [isSubtype_type]; kernel_rfl)
theorem type_sub : typeOf (.builtin "re.Pattern.sub") = pure (.type "method_descriptor") := by show builtinType _ = _; rw [builtinType_eq_fast]; kernel_rfl
theorem entry_sub : entryFor table "re.Pattern.sub" = some Builtin.«re.Pattern.sub» := entryFor_of_tree (by kernel_rfl)
theorem entry_sub_loop : entryFor table "re.Pattern.sub.loop" = some Builtin.«re.Pattern.sub.loop» := entryFor_of_tree (by kernel_rfl)
theorem plain_sub_loop : plainId "re.Pattern.sub.loop" = true := by decide +kernel
theorem args_sub (a b c : Value) : argsOk "re.Pattern.sub" ⟨[a, b, c], []⟩ := by
  unfold argsOk; rw [signature?_of (id := "re.Pattern.sub") (n := ['b', 'u', 's']) (o := ['n', 'r', 'e', 't', 't', 'a', 'P', '.', 'e', 'r']) (by kernel_rfl) pattern_owner]; kernel_rfl
end Mine

set_option Elab.async false
set_option linter.unusedVariables false
set_option linter.unusedSimpArgs false
set_option maxRecDepth 100000
namespace Mine
open PySem.Sre PySem.Builtin.Re PySem.Builtin

/-- the object at P is the pattern with this code, for texts, without groups -/
def IsPat (h : Heap) (P : Addr) (code : Array Nat) : Prop :=
  ∃ (fs : Array Value) (T : Addr) (ws : Array Value) (n : Nat), h.get? P = some { cls := .type "re.Pattern", data := .fields fs } ∧ fs.getD 5 .none = .ref T ∧ reRawNat (fs.getD 2 .none) = 0 ∧ reRawNat (fs.getD 6 .none) = 0 ∧
    h.get? T = some { cls := .type "tuple", data := .seq ws n } ∧ (ws.map reRawOf).map (·.toNat) = code
theorem IsPat.keep {h h' : Heap} {P : Addr} {code : Array Nat} (i : IsPat h P code) (k : ∀ b o, h.get? b = some o → h'.get? b = some o) : IsPat h' P code := by
  obtain ⟨fs, T, ws, n, h1, h2, h3, h4, h5, h6⟩ := i
  exact ⟨fs, T, ws, n, k _ _ h1, h2, h3, h4, k _ _ h5, h6⟩

/-- where the next match lies, by the machine -/
def Finds (code text : Array Nat) (next : Nat → Option (Nat × Nat)) : Prop :=
  ∀ s, s ≤ text.size → ∃ m' k, k ≤ 2 ^ 64 ∧ Ends k (forSearch code text 0 s text.size false) m' ∧
    match next s with
    | some (p, e) => m'.outcome = some .matched ∧ m'.start = p ∧ m'.handed = e ∧ s ≤ p ∧ p < e ∧ e ≤ text.size
    | none => m'.outcome = some .failed

def subPieces (text : Array Nat) (repl : Str) (next : Nat → Option (Nat × Nat)) : Nat → Nat → List Str
  | 0, _ => []
  | n + 1, done => match next done with
    | none => if done < text.size then [⟨text.extract done text.size⟩] else []
    | some (p, e) => (if done < p then [⟨text.extract done p⟩] else []) ++ repl :: subPieces text repl next n e

section
variable {prog : Program} {w : World} {A : Around} {s : Shared}
theorem whole_target {P : Addr} {code : Array Nat} {x : Str} {t : Tok} {E : Value → Shared → Prop} {Q : ReTarget → Shared → Prop} (hp : IsPat s.heap P code)
    (hq : Q { pattern := .ref P, string := .str x t, code, text := x.cps, kind := 0, groups := 0, pos := 0, lim := x.cps.size } s) : wpAny (model prog w) A (reWholeTarget (.ref P) (.str x t)) Q E s := by
  obtain ⟨fs, T, ws, n, h1, h2, h3, h4, h5, h6⟩ := hp
  unfold reWholeTarget
  refine wpAny_bind (wpAny_fieldsOf h1 rfl ?_)
  refine wpAny_bind ?_
  show wpAny _ _ (pure (x.cps, 0)) _ _ _
  refine wpAny_pure ?_
  rw [h4]
  show wpAny _ _ (reRawItems (fs.getD 5 .none) >>= _) _ _ _
  unfold reRawItems
  rw [h2]
  refine wpAny_bind (wpAny_bind (wpAny_seqItems h5 rfl (wpAny_pure ?_)))
  rw [h3]
  show wpAny _ _ (pure _) _ _ _
  refine wpAny_pure ?_
  dsimp only [Option.getD]
  rw [h6]
  exact hq

def subArgs (P L : Addr) (x r : Str) (t tr : Tok) (n done : Int) : Args :=
  ⟨[.ref P, .str x t, .str r tr, rawInt 0, rawInt 0, rawInt n, rawInt done, rawInt done, .bool false, .ref L, .bool false], []⟩

theorem loop_tree (P L : Addr) (x r : Str) (t tr : Tok) (n done : Int) : «re.Pattern.sub.loop» (subArgs P L x r t tr n done) = (do
    let T ← reWholeTarget (.ref P) (.str x t)
    reLiteralCannotBeTurned (.str r tr)
    match ← reNextFound T done.toNat false with
    | some m => do
      if done.toNat < m.start then updateSeq L (·.push (← reSlice T.text T.kind done.toNat m.start))
      updateSeq L (·.push (.str r tr))
      again (.builtin "re.Pattern.sub.loop" ⟨[.ref P, .str x t, .str r tr, rawInt 0, rawInt 0, rawInt (n + 1), rawInt m.handed, rawInt m.handed, .bool (m.handed == m.start), .ref L, .bool false], []⟩)
    | none => do
      if done.toNat < T.lim then updateSeq L (·.push (← reSlice T.text T.kind done.toNat T.lim))
      let joiner ← reSlice T.text T.kind 0 0
      let text ← if ((← seqItems? (.ref L)).getD #[]).isEmpty then pure joiner
        else call (.builtin (if T.kind == 0 then "str.join" else "bytes.join")) [joiner, .ref L]
      ret text) := rfl

/-- all but L stays -/
def K0 (L : Addr) (s s' : Shared) : Prop := ∃ h' tk, s' = { s with heap := h', toks := tk } ∧ ∀ b o, b ≠ L → s.heap.get? b = some o → h'.get? b = some o
theorem K0.refl (L : Addr) (s : Shared) : K0 L s s := ⟨s.heap, s.toks, rfl, fun _ _ _ e => e⟩
theorem K0.trans {L : Addr} {s s' s'' : Shared} (a : K0 L s s') (b : K0 L s' s'') : K0 L s s'' := by
  obtain ⟨h1, t1, rfl, k1⟩ := a
  obtain ⟨h2, t2, rfl, k2⟩ := b
  exact ⟨h2, t2, rfl, fun b o n e => k2 b o n (k1 b o n e)⟩
theorem K0.toks (L : Addr) (s : Shared) (k : Nat) : K0 L s { s with toks := k } := ⟨s.heap, k, rfl, fun _ _ _ e => e⟩
theorem K0.get {L : Addr} {s s' : Shared} (k : K0 L s s') {b : Addr} {o : Obj} (n : b ≠ L) (e : s.heap.get? b = some o) : s'.heap.get? b = some o := by
  obtain ⟨h1, t1, rfl, k1⟩ := k
  exact k1 b o n e
def Ends1 (R : Result → Shared → Prop) (M : Model) (A : Around) (fin : Fin) (s' : Shared) : Prop := match fin with | .done f => R (.ok f) s' | .again c' => c'.quiet = true ∧ codeAny M A c' R s'

def SubR (L : Addr) (s : Shared) (y : Str) : Result → Shared → Prop := fun res s' => ∃ v, res = .ok (.ret v) ∧ K0 L s s' ∧ ∃ t', v = .str y t'

theorem push_piece {L : Addr} {l : List (Str × Tok)} {c : Nat} {y : Str} {t : Tok} {E : Value → Shared → Prop} {Q : Unit → Shared → Prop} (hL : s.heap.get? L = some { cls := .type "list", data := .seq (strValues l).toArray c }) (hsz : l.length + 1 ≤ sizeLine)
    (hq : ∀ s' c', K0 L s s' → s'.heap.get? L = some { cls := .type "list", data := .seq (strValues (l ++ [(y, t)])).toArray c' } → Q () s') : wpAny (model prog w) A (updateSeq L (·.push (.str y t))) Q E s := by
  have e : (strValues l).toArray.size = l.length := by simp [strValues]
  refine wpAny_updateSeq hL rfl ?_ (by rw [e]; exact Nat.le_of_succ_le hsz) (by rw [Array.size_push, e]; exact Nat.le_succ_of_le hsz)
  have h2 := Heap.get?_update_self (Obj.mapSeq (·.push (.str y t))) hL rfl
  have e2 : (strValues l).toArray.push (.str y t) = (strValues (l ++ [(y, t)])).toArray := by simp [strValues]
  have h3 : (s.heap.update L (Obj.mapSeq (·.push (.str y t)))).get? L = some { cls := .type "list", data := .seq ((strValues l).toArray.push (.str y t)) _ } := h2
  rw [e2] at h3
  exact hq _ _ ⟨_, _, rfl, fun b o hb eo => (Heap.get?_update_other _ _ (Ne.symm hb)).trans eo⟩ h3

theorem sub_join {R : Result → Shared → Prop} {E : Value → Shared → Prop} {A' : Around} {L : Addr} {x : Str} {l : List (Str × Tok)} {c : Nat} (hL : s.heap.get? L = some { cls := .type "list", data := .seq (strValues l).toArray c }) (hj : JoinOk ⟨#[]⟩ (l.map (·.1)) = true)
    (hq : ∀ t' k, R (.ok (.ret (.str (Txt.join ⟨#[]⟩ (l.map (·.1))) t'))) { s with toks := k }) :
    wpAny (model prog w) A (do
      let joiner ← reSlice x.cps 0 0 0
      let text ← if ((← seqItems? (.ref L)).getD #[]).isEmpty then pure joiner else call (.builtin (if (0 == 0) = true then "str.join" else "bytes.join")) [joiner, .ref L]
      ret text) (Ends1 R (model prog w) A') E s := by
  have e0 : (⟨x.cps.extract 0 0⟩ : Str) = ⟨#[]⟩ := by simp
  refine wpAny_bind ?_
  show wpAny _ _ (mkStr ⟨x.cps.extract 0 0⟩) _ _ _
  rw [e0]
  refine wpAny_mkStr ?_ (by decide +kernel)
  refine wpAny_bind (wpAny_seqItems hL rfl ?_)
  dsimp only [Option.getD]
  cases l with
  | nil =>
    show wpAny _ _ (pure _ >>= _) _ _ _
    exact wpAny_bind (wpAny_pure (wpAny_pure (hq _ _)))
  | cons a b =>
    show wpAny _ _ (call (.builtin "str.join") [.str ⟨#[]⟩ s.toks, .ref L] >>= _) _ _ _
    refine wpAny_bind ?_
    exact SC.join (l := a :: b) (isList_of hL) rfl hj fun t' k => wpAny_pure (hq _ _)

theorem sub_loop {P L : Addr} {code : Array Nat} {x r : Str} {t tr : Tok} {next : Nat → Option (Nat × Nat)} {hb : Heap} (hp : IsPat hb P code) (hL0 : hb.get? L = none) (hf : Finds code x.cps next) (hx : x.cps.size ≤ 1000) :
    ∀ (k n done : Nat) (l : List (Str × Tok)) (c : Nat) (s : Shared), x.cps.size < done + k → done ≤ x.cps.size → (∀ b o, hb.get? b = some o → s.heap.get? b = some o) →
      s.heap.get? L = some { cls := .type "list", data := .seq (strValues l).toArray c } → JoinOk ⟨#[]⟩ (l.map (·.1) ++ subPieces x.cps r next k done) = true → (l.map (·.1) ++ subPieces x.cps r next k done).length ≤ sizeLine →
      codeAny (model prog w) A (.builtin "re.Pattern.sub.loop" (subArgs P L x r t tr n done)) (SubR L s (Txt.join ⟨#[]⟩ (l.map (·.1) ++ subPieces x.cps r next k done))) s
  | 0, n, done, l, c, s, h1, h2, _, _, _, _ => by omega
  | k + 1, n, done, l, c, s, h1, h2, hk, hL, hj, hs => by
    have hkL : ∀ {s' : Shared}, K0 L s s' → ∀ b o, hb.get? b = some o → s'.heap.get? b = some o := fun z b o e => z.get (fun q => by rw [q, hL0] at e; cases e) (hk b o e)
    refine codeAny_builtin entry_sub_loop ?_
    rw [loop_tree, Around.under_plainId plain_sub_loop _]
    refine wpAny_bind (whole_target (hp.keep hk) ?_)
    refine wpAny_bind ?_
    show wpAny _ _ (pure ()) _ _ _
    refine wpAny_pure ?_
    refine wpAny_bind ?_
    show wpAny _ _ (reRunToEnd (forSearch code x.cps 0 done x.cps.size false)) _ _ _
    obtain ⟨m', j, hj1, he, ho⟩ := hf done h2
    have hd : ((done : Int)).toNat = done := rfl
    cases hn : next done with
    | none =>
      rw [hn] at ho
      have ho : m'.outcome = some .failed := ho
      refine toEnd he hj1 (fun q => by rw [ho] at q; cases q) (fun _ => ?_) (fun why q => by rw [ho] at q; cases q)
      unfold subPieces at hj hs ⊢
      rw [hn] at hj hs ⊢
      dsimp only at hj hs ⊢
      by_cases hlt : done < x.cps.size
      · rw [if_pos hlt] at hj hs ⊢
        rw [if_pos (show ((done : Int)).toNat < x.cps.size from hlt)]
        refine wpAny_bind ?_
        show wpAny _ _ (mkStr ⟨x.cps.extract done x.cps.size⟩) _ _ _
        refine wpAny_mkStr ?_ (show (x.cps.extract done x.cps.size).size ≤ sizeLine by rw [Array.size_extract]; exact Nat.le_trans (by omega) (show 1000 ≤ sizeLine by decide +kernel))
        refine wpAny_bind (push_piece hL (by simpa using hs) fun s' c' k' hL' => ?_)
        have el : (l ++ [((⟨x.cps.extract done x.cps.size⟩ : Str), s.toks)]).map (·.1) = l.map (·.1) ++ [⟨x.cps.extract done x.cps.size⟩] := by simp
        rw [← el] at hj ⊢
        exact sub_join (R := SubR L s _) hL' hj fun t' k => ⟨_, rfl, ((K0.toks L s _).trans k').trans (K0.toks L s' k), _, rfl⟩
      · rw [if_neg hlt] at hj hs ⊢
        rw [if_neg (show ¬ ((done : Int)).toNat < x.cps.size from hlt)]
        rw [List.append_nil] at hj hs ⊢
        exact sub_join (R := SubR L s _) hL hj fun t' k => ⟨_, rfl, K0.toks L s k, _, rfl⟩
    | some pe =>
      obtain ⟨p, e⟩ := pe
      rw [hn] at ho
      obtain ⟨ho, o1, o2, o3, o4, o5⟩ := ho
      refine toEnd he hj1 (fun _ => ?_) (fun q => by rw [ho] at q; cases q) (fun why q => by rw [ho] at q; cases q)
      unfold subPieces at hj hs ⊢
      rw [hn] at hj hs ⊢
      dsimp only at hj hs ⊢
      subst o1; subst o2
      have tail : ∀ (l' : List (Str × Tok)) (c' : Nat) (s' : Shared), K0 L s s' → s'.heap.get? L = some { cls := .type "list", data := .seq (strValues l').toArray c' } →
          l'.map (·.1) ++ r :: subPieces x.cps r next k m'.handed = l.map (·.1) ++ ((if done < m'.start then [⟨x.cps.extract done m'.start⟩] else []) ++ r :: subPieces x.cps r next k m'.handed) →
          wpAny (model prog w) A.in1 (do
            updateSeq L (·.push (.str r tr))
            again (.builtin "re.Pattern.sub.loop" ⟨[.ref P, .str x t, .str r tr, rawInt 0, rawInt 0, rawInt (n + 1), rawInt m'.handed, rawInt m'.handed, .bool (m'.handed == m'.start), .ref L, .bool false], []⟩))
            (Ends1 (SubR L s (Txt.join ⟨#[]⟩ (l.map (·.1) ++ ((if done < m'.start then [⟨x.cps.extract done m'.start⟩] else []) ++ r :: subPieces x.cps r next k m'.handed)))) (model prog w) A)
            (fun e s' => (SubR L s (Txt.join ⟨#[]⟩ (l.map (·.1) ++ ((if done < m'.start then [⟨x.cps.extract done m'.start⟩] else []) ++ r :: subPieces x.cps r next k m'.handed)))) (.error e) s') s' := by
        intro l' c' s' k' hL' el
        rw [← el] at hj hs ⊢
        have hb : (m'.handed == m'.start) = false := by simpa using Nat.ne_of_gt o4
        have el2 : l'.map (·.1) ++ r :: subPieces x.cps r next k m'.handed = (l' ++ [(r, tr)]).map (·.1) ++ subPieces x.cps r next k m'.handed := by simp
        rw [hb]
        refine wpAny_bind (push_piece hL' (by rw [el2, List.length_append, List.length_map, List.length_append] at hs; exact Nat.le_trans (Nat.le_add_right _ _) hs) fun s'' c'' k'' hL'' => ?_)
        rw [el2] at hj hs ⊢
        refine wpAny_pure ⟨plainId_quiet plain_sub_loop _, ?_⟩
        refine codeAny_mono (sub_loop hp hL0 hf hx k (n + 1) m'.handed _ c'' s'' (by omega) o5 (hkL (k'.trans k'')) hL'' hj hs) ?_
        rintro res s3 ⟨v, e1, e2, e3⟩
        exact ⟨v, e1, (k'.trans k'').trans e2, e3⟩
      by_cases hlt : done < m'.start
      · rw [if_pos (show ((done : Int)).toNat < m'.start from hlt)]
        refine wpAny_bind ?_
        show wpAny _ _ (mkStr ⟨x.cps.extract done m'.start⟩) _ _ _
        refine wpAny_mkStr ?_ (show (x.cps.extract done m'.start).size ≤ sizeLine by rw [Array.size_extract]; exact Nat.le_trans (by omega) (show 1000 ≤ sizeLine by decide +kernel))
        refine wpAny_bind (push_piece hL (by rw [if_pos hlt] at hs; simp at hs; omega) fun s' c' k' hL' => ?_)
        exact tail _ c' s' ((K0.toks L s _).trans k') hL' (by rw [if_pos hlt]; simp)
      · rw [if_neg (show ¬ ((done : Int)).toNat < m'.start from hlt)]
        exact tail l c s (K0.refl L s) hL (by rw [if_neg hlt]; rfl)
end
end Mine

set_option Elab.async false
set_option linter.unusedVariables false
set_option linter.unusedSimpArgs false
set_option maxRecDepth 100000
namespace Mine
open PySem.Sre PySem.Builtin.Re PySem.Builtin

theorem noCall_str (r : Str) (tr : Tok) : specialOf (.str r tr) "__call__" = pure none := by show typeLookup (.type "str") _ = _; rw [typeLookup_type, builtinLookup_eq_fast]; kernel_rfl
theorem named_sub (id : String) (a b : Value) : reNamed id "sub" ["repl", "string", "count"] 2 [a, b] [] = pure [some a, some b, none] := rfl

section
variable {prog : Program} {w : World} {A : Around} {s : Shared}
theorem sub_spec {P : Addr} {code : Array Nat} {x r : Str} {t tr : Tok} {next : Nat → Option (Nat × Nat)} (hp : IsPat s.heap P code) (hf : Finds code x.cps next) (hx : x.cps.size ≤ 1000) (hr : r.cps.contains 92 = false)
    (hj : JoinOk ⟨#[]⟩ (subPieces x.cps r next (x.cps.size + 1) 0) = true) (hs : (subPieces x.cps r next (x.cps.size + 1) 0).length ≤ sizeLine) :
    wpAny (model prog w) A (call (.builtin "re.Pattern.sub") [.ref P, .str r tr, .str x t]) (fun v s' => Keeps s s' ∧ ∃ t', v = .str (Txt.join ⟨#[]⟩ (subPieces x.cps r next (x.cps.size + 1) 0)) t') (fun _ _ => False) s := by
  refine up (wpAny_call (codeAny_call_builtin slot_sub.plain entry_sub (slot_sub.check _ _ _ _ _ _ _ _ (by obtain ⟨fs, T, ws, n, h1, _⟩ := hp; exact ⟨_, h1, rfl⟩) (args_sub _ _ _) ?_)))
  show wpAny _ _ (reNamed "re.Pattern.sub" "sub" ["repl", "string", "count"] 2 [.str r tr, .str x t] [] >>= _) _ _ _
  rw [named_sub]
  refine wpAny_bind (wpAny_pure ?_)
  show wpAny _ _ (pure (0 : Int) >>= _) _ _ _
  refine wpAny_bind (wpAny_pure ?_)
  show wpAny _ _ (specialOf (.str r tr) "__call__" >>= _) _ _ _
  rw [noCall_str]
  refine wpAny_bind (wpAny_pure ?_)
  show wpAny _ _ (pure (some r) >>= _) _ _ _
  refine wpAny_bind (wpAny_pure ?_)
  show wpAny _ _ ((pure !r.cps.contains 92) >>= _) _ _ _
  rw [hr]
  refine wpAny_bind (wpAny_pure ?_)
  show wpAny _ _ (pure (Value.str r tr, (0 : Int)) >>= _) _ _ _
  refine wpAny_bind (wpAny_pure ?_)
  show wpAny _ _ (holding [.str r tr] (reWholeTarget (.ref P) (.str x t)) >>= _) _ _ _
  refine wpAny_bind (wpAny_holding (whole_target hp ?_))
  show wpAny _ _ (newList [] >>= _) _ _ _
  refine wpAny_bind (wpAny_newList ?_)
  refine wpAny_pure ⟨plainId_quiet plain_sub_loop _, ?_⟩
  have hnone : s.heap.get? s.heap.objs.size = none := by
    cases e : s.heap.get? s.heap.objs.size with
    | none => rfl
    | some o => exact absurd (Heap.lt_size e) (Nat.lt_irrefl _)
  have hpush := Heap.get?_push_size s.heap (o := { cls := .type "list", data := .seq (strValues []).toArray 0 }) rfl
  refine codeAny_mono (sub_loop (hb := s.heap) (L := s.heap.objs.size) (code := code) (k := x.cps.size + 1) (n := 0) (done := 0) (l := []) (c := 0) hp hnone hf hx (s := _) (by omega) (Nat.zero_le _) (fun b o e => Heap.get?_push_of_some _ e) hpush hj hs) ?_
  rintro res s' ⟨v, rfl, ⟨h', tk, rfl, k⟩, t', rfl⟩
  exact ⟨⟨h', tk, rfl, fun b o e => k b o (Nat.ne_of_lt (Heap.lt_size e)) (Heap.get?_push_of_some _ e)⟩, t', rfl⟩
end
end Mine

set_option Elab.async false
set_option linter.unusedVariables false
set_option linter.unusedSimpArgs false
namespace Mine
open PySem.Sre PySem.Builtin.Re PySem.Builtin

theorem drop_getD (text : Array Nat) {s : Nat} (h : s < text.size) : text.toList.drop s = text.getD s 0 :: text.toList.drop (s + 1) := by
  have : s < text.toList.length := by simpa using h
  rw [List.drop_eq_getElem_cons this]
  simp [Array.getD, h]
theorem extract_list (text : Array Nat) (s p : Nat) : (text.extract s p).toList = (text.toList.drop s).take (p - s) := by
  simp [List.extract_eq_take_drop]

theorem pieces_are (text : Array Nat) (r : Str) (next : Nat → Option (Nat × Nat)) (G : Nat → List Nat) (hspan : ∀ s p e, s ≤ text.size → next s = some (p, e) → s ≤ p ∧ p < e ∧ e ≤ text.size)
    (hn : ∀ s, s ≤ text.size → next s = none → G s = text.toList.drop s) (hs : ∀ s p e, s ≤ text.size → next s = some (p, e) → G s = (text.toList.drop s).take (p - s) ++ r.cps.toList ++ G e) :
    ∀ k done, text.size < done + k → done ≤ text.size → (subPieces text r next k done).flatMap (·.cps.toList) = G done ∧ (subPieces text r next k done).length ≤ 2 * (text.size - done) + 1
  | 0, done, h1, h2 => by omega
  | k + 1, done, h1, h2 => by
    unfold subPieces
    cases e : next done with
    | none =>
      rw [hn done h2 e]
      by_cases hlt : done < text.size
      · simp [hlt, List.extract_eq_take_drop]
        rw [List.take_of_length_le]
        simp
      · have : done = text.size := by omega
        subst this
        simp
    | some pe =>
      obtain ⟨p, q⟩ := pe
      obtain ⟨a1, a2, a3⟩ := hspan done p q h2 e
      obtain ⟨i1, i2⟩ := pieces_are text r next G hspan hn hs k q (by omega) a3
      rw [hs done p q h2 e, ← i1]
      by_cases hlt : done < p
      · simp only [hlt, if_true]
        refine ⟨by simp [List.extract_eq_take_drop], ?_⟩
        simp only [List.length_append, List.length_cons, List.length_nil]
        omega
      · have : p = done := by omega
        subst this
        simp only [hlt, if_false]
        refine ⟨by simp, ?_⟩
        simp only [List.length_append, List.length_cons, List.length_nil, List.nil_append]
        omega

theorem glue_list : ∀ (ps : List Str) (a : Array Nat), ((ps.foldl (fun acc p => acc ++ (⟨#[]⟩ : Str).cps ++ p.cps) a)).toList = a.toList ++ ps.flatMap (·.cps.toList)
  | [], a => by simp
  | p :: ps, a => by rw [List.foldl_cons, glue_list ps]; simp
theorem join_list (ps : List Str) : (Txt.join ⟨#[]⟩ ps).cps.toList = ps.flatMap (·.cps.toList) := by
  cases ps with
  | nil => rfl
  | cons p ps =>
    show ((ps.foldl (fun acc p => acc ++ (⟨#[]⟩ : Str).cps ++ p.cps) p.cps)).toList = _
    rw [glue_list]; rfl
theorem len_flat (ps : List Str) : (ps.map (·.length)).sum = (ps.flatMap (·.cps.toList)).length := by
  induction ps with
  | nil => rfl
  | cons p ps ih =>
    rw [List.map_cons, List.sum_cons, List.flatMap_cons, List.length_append, ih]
    show p.cps.size + _ = _
    simp
theorem joinOk_list (ps : List Str) (h : (ps.flatMap (·.cps.toList)).length ≤ 16777216) : JoinOk ⟨#[]⟩ ps = true := by
  unfold JoinOk
  rw [StrLaws.joinTotal, len_flat]
  have : (⟨#[]⟩ : Str).length = 0 := rfl
  rw [this, Nat.mul_zero, Nat.add_zero]
  unfold Builtin.Str.tooLong
  have e : sizeLine = 16777216 := rfl
  simp only [e, gt_iff_lt, Bool.not_eq_true', decide_eq_false_iff_not]
  exact Nat.not_lt.mpr h

/-- every line's end becomes the two signs -/
def nlL : Bool → List Nat → List Nat
  | _, [] => []
  | b, c :: r => if c = 13 then 13 :: 10 :: nlL true r else if c = 10 then (if b = true then nlL false r else 13 :: 10 :: nlL false r) else c :: nlL false r
theorem nl_plain {r : List Nat} (h : r.head? ≠ some 10) : nlL true r = nlL false r := by
  cases r with
  | nil => rfl
  | cons c r =>
    have hc : c ≠ 10 := fun q => h (by rw [q]; rfl)
    rw [nlL, nlL, if_neg hc, if_neg hc]
/-- a dot at a line's start is doubled -/
def dotL : Bool → List Nat → List Nat
  | _, [] => []
  | b, c :: r => if b = true ∧ c = 46 then 46 :: 46 :: dotL false r else c :: dotL (c == 10) r

def next1 (text : Array Nat) (s : Nat) : Option (Nat × Nat) := (nextDot text (text.size - s) s).map fun p => (p, p + 1)
def next2 (text : Array Nat) (s : Nat) : Option (Nat × Nat) := (nextNl text (text.size - s) s).map fun p => (p, nlEnd text p)

theorem nextDot_spec (text : Array Nat) : ∀ (n s p : Nat), nextDot text n s = some p → dotAt text p = true ∧ s ≤ p ∧ p < s + n
  | 0, s, p, h => by cases h
  | n + 1, s, p, h => by
    unfold nextDot at h
    split at h
    · cases h; exact ⟨‹_›, Nat.le_refl _, by omega⟩
    · obtain ⟨a, b, c⟩ := nextDot_spec text n (s + 1) p h
      exact ⟨a, by omega, by omega⟩
theorem nlEnd_spec (text : Array Nat) {p : Nat} (h : p < text.size) : p < nlEnd text p ∧ nlEnd text p ≤ text.size := by
  unfold nlEnd
  by_cases q : text.getD p 0 = 13 ∧ p + 1 < text.size ∧ text.getD (p + 1) 0 = 10
  · rw [if_pos q]; omega
  · rw [if_neg q]; omega

theorem finds1 (text : Array Nat) (h : text.size ≤ 1000) : Finds dotCode text (next1 text) := fun s hs => by
  obtain ⟨m', k, hk, he, ho⟩ := forSearch1 text s hs
  refine ⟨m', k, by omega, he, ?_⟩
  unfold next1
  cases e : nextDot text (text.size - s) s with
  | none => rw [e] at ho; exact ho
  | some p =>
    rw [e] at ho
    obtain ⟨_, b, c⟩ := nextDot_spec text _ _ _ e
    exact ⟨ho.1, ho.2.1, ho.2.2, b, by omega, by omega⟩
theorem finds2 (text : Array Nat) : Finds nlCode text (next2 text) := fun s hs => by
  obtain ⟨m', k, hk, he, ho⟩ := forSearch2 text s hs
  refine ⟨m', k, Nat.le_trans hk (by decide), he, ?_⟩
  unfold next2
  cases e : nextNl text (text.size - s) s with
  | none => rw [e] at ho; exact ho
  | some p =>
    rw [e] at ho
    obtain ⟨_, b, c⟩ := nextNl_spec text _ _ _ e
    have := nlEnd_spec text (p := p) (by omega)
    exact ⟨ho.1, ho.2.1, ho.2.2, b, this.1, this.2⟩

theorem nl_jump (text : Array Nat) : ∀ (n s p : Nat), s + n = text.size → nextNl text n s = some p → nlL false (text.toList.drop s) = (text.toList.drop s).take (p - s) ++ nlL false (text.toList.drop p)
  | 0, s, p, e, h => by cases h
  | n + 1, s, p, e, h => by
    unfold nextNl at h
    split at h
    · cases h; simp
    · rename_i hc
      obtain ⟨_, b, _⟩ := nextNl_spec text _ _ _ h
      rw [drop_getD text (by omega : s < text.size)]
      rw [show p - s = (p - (s + 1)) + 1 by omega, List.take_succ_cons]
      rw [nlL, if_neg (fun q => hc (.inr q)), if_neg (fun q => hc (.inl q)), nl_jump text n (s + 1) p (by omega) h]
      rfl
theorem nl_end (text : Array Nat) : ∀ (n s : Nat), s + n = text.size → nextNl text n s = none → nlL false (text.toList.drop s) = text.toList.drop s
  | 0, s, e, h => by
    have : text.toList.drop s = [] := by apply List.drop_eq_nil_of_le; simp; omega
    rw [this]; rfl
  | n + 1, s, e, h => by
    unfold nextNl at h
    split at h
    · cases h
    · rename_i hc
      rw [drop_getD text (by omega : s < text.size), nlL, if_neg (fun q => hc (.inr q)), if_neg (fun q => hc (.inl q)), nl_end text n (s + 1) (by omega) h]
theorem nl_at (text : Array Nat) {p : Nat} (h : p < text.size) (hc : text.getD p 0 = 10 ∨ text.getD p 0 = 13) : nlL false (text.toList.drop p) = [13, 10] ++ nlL false (text.toList.drop (nlEnd text p)) := by
  rw [drop_getD text h]
  unfold nlEnd
  by_cases h13 : text.getD p 0 = 13
  · rw [nlL, if_pos h13]
    by_cases hn : p + 1 < text.size ∧ text.getD (p + 1) 0 = 10
    · rw [if_pos ⟨h13, hn⟩, drop_getD text hn.1, hn.2]
      rfl
    · rw [if_neg (fun q => hn q.2), nl_plain]
      · rfl
      · intro q
        rcases Nat.lt_or_ge (p + 1) text.size with z | z
        · rw [drop_getD text z] at q
          injection q with q
          exact hn ⟨z, q⟩
        · have : text.toList.drop (p + 1) = [] := by apply List.drop_eq_nil_of_le; simp; omega
          rw [this] at q; cases q
  · rw [nlL, if_neg h13, if_pos (hc.resolve_right h13), if_neg Bool.false_ne_true, if_neg (fun q => h13 q.1)]
    rfl

theorem nl_pieces (text : Array Nat) : (subPieces text ⟨#[13, 10]⟩ (next2 text) (text.size + 1) 0).flatMap (·.cps.toList) = nlL false text.toList ∧ (subPieces text ⟨#[13, 10]⟩ (next2 text) (text.size + 1) 0).length ≤ 2 * text.size + 1 := by
  have := pieces_are text ⟨#[13, 10]⟩ (next2 text) (fun s => nlL false (text.toList.drop s)) (fun s p e hs h => ?_) (fun s hs h => ?_) (fun s p e hs h => ?_) (text.size + 1) 0 (by omega) (Nat.zero_le _)
  · simpa using this
  · unfold next2 at h
    cases e' : nextNl text (text.size - s) s with
    | none => rw [e'] at h; cases h
    | some q =>
      rw [e'] at h; cases h
      obtain ⟨_, b, c⟩ := nextNl_spec text _ _ _ e'
      have := nlEnd_spec text (p := p) (by omega)
      exact ⟨b, this⟩
  · unfold next2 at h
    cases e' : nextNl text (text.size - s) s with
    | none => exact nl_end text _ s (by omega) e'
    | some q => rw [e'] at h; cases h
  · unfold next2 at h
    cases e' : nextNl text (text.size - s) s with
    | none => rw [e'] at h; cases h
    | some q =>
      rw [e'] at h; cases h
      obtain ⟨a, b, c⟩ := nextNl_spec text _ _ _ e'
      show nlL false (text.toList.drop s) = _
      rw [nl_jump text _ s p (by omega) e', nl_at text (by omega) a, List.append_assoc]

def atStart (text : Array Nat) (s : Nat) : Bool := s == 0 || text.getD (s - 1) 0 == 10
theorem dot_jump (text : Array Nat) : ∀ (n s p : Nat), s + n = text.size → nextDot text n s = some p → dotL (atStart text s) (text.toList.drop s) = (text.toList.drop s).take (p - s) ++ dotL (atStart text p) (text.toList.drop p)
  | 0, s, p, e, h => by cases h
  | n + 1, s, p, e, h => by
    unfold nextDot at h
    split at h
    · cases h; simp
    · rename_i hc
      obtain ⟨_, b, _⟩ := nextDot_spec text _ _ _ h
      rw [drop_getD text (by omega : s < text.size)]
      rw [show p - s = (p - (s + 1)) + 1 by omega, List.take_succ_cons]
      rw [dotL, if_neg (fun q => hc (by unfold dotAt; unfold atStart at q; rw [q.1, q.2]; simp; omega))]
      have := dot_jump text n (s + 1) p (by omega) h
      have e2 : atStart text (s + 1) = (text.getD s 0 == 10) := by simp [atStart]
      rw [e2] at this
      rw [this]
      rfl
theorem dot_end (text : Array Nat) : ∀ (n s : Nat), s + n = text.size → nextDot text n s = none → dotL (atStart text s) (text.toList.drop s) = text.toList.drop s
  | 0, s, e, h => by
    have : text.toList.drop s = [] := by apply List.drop_eq_nil_of_le; simp; omega
    rw [this]; rfl
  | n + 1, s, e, h => by
    unfold nextDot at h
    split at h
    · cases h
    · rename_i hc
      rw [drop_getD text (by omega : s < text.size), dotL, if_neg (fun q => hc (by unfold dotAt; unfold atStart at q; rw [q.1, q.2]; simp; omega))]
      have := dot_end text n (s + 1) (by omega) h
      have e2 : atStart text (s + 1) = (text.getD s 0 == 10) := by simp [atStart]
      rw [e2] at this
      rw [this]
theorem dot_pieces (text : Array Nat) : (subPieces text ⟨#[46, 46]⟩ (next1 text) (text.size + 1) 0).flatMap (·.cps.toList) = dotL true text.toList ∧ (subPieces text ⟨#[46, 46]⟩ (next1 text) (text.size + 1) 0).length ≤ 2 * text.size + 1 := by
  have := pieces_are text ⟨#[46, 46]⟩ (next1 text) (fun s => dotL (atStart text s) (text.toList.drop s)) (fun s p e hs h => ?_) (fun s hs h => ?_) (fun s p e hs h => ?_) (text.size + 1) 0 (by omega) (Nat.zero_le _)
  · simpa [atStart] using this
  · unfold next1 at h
    cases e' : nextDot text (text.size - s) s with
    | none => rw [e'] at h; cases h
    | some q =>
      rw [e'] at h; cases h
      obtain ⟨_, b, c⟩ := nextDot_spec text _ _ _ e'
      exact ⟨b, by omega, by omega⟩
  · unfold next1 at h
    cases e' : nextDot text (text.size - s) s with
    | none => exact dot_end text _ s (by omega) e'
    | some q => rw [e'] at h; cases h
  · unfold next1 at h
    cases e' : nextDot text (text.size - s) s with
    | none => rw [e'] at h; cases h
    | some q =>
      rw [e'] at h; cases h
      obtain ⟨a, b, c⟩ := nextDot_spec text _ _ _ e'
      show dotL (atStart text s) (text.toList.drop s) = _
      rw [dot_jump text _ s p (by omega) e']
      unfold dotAt at a
      simp only [Bool.and_eq_true, decide_eq_true_eq, beq_iff_eq] at a
      have e3 : atStart text p = true := by unfold atStart; exact a.1.1
      have e4 : atStart text (p + 1) = false := by simp [atStart, a.2]
      rw [e3, e4, drop_getD text a.1.2, a.2, dotL, if_pos ⟨rfl, rfl⟩, List.append_assoc]
      rfl
end Mine

set_option Elab.async false
set_option linter.unusedVariables false
set_option linter.unusedSimpArgs false
namespace Mine
open PySem.Sre PySem.Builtin.Re PySem.Builtin

theorem nlL_len : ∀ (b : Bool) (l : List Nat), (nlL b l).length ≤ 2 * l.length
  | _, [] => Nat.le_refl _
  | b, c :: r => by
    have h1 := nlL_len true r
    have h2 := nlL_len false r
    unfold nlL
    split
    · simp only [List.length_cons]; omega
    · split
      · split
        · simp only [List.length_cons]; omega
        · simp only [List.length_cons]; omega
      · simp only [List.length_cons]; omega
theorem dotL_len : ∀ (b : Bool) (l : List Nat), (dotL b l).length ≤ 2 * l.length
  | _, [] => Nat.le_refl _
  | b, c :: r => by
    have h1 := dotL_len false r
    have h2 := dotL_len (c == 10) r
    unfold dotL
    split
    · simp only [List.length_cons]; omega
    · simp only [List.length_cons]; omega
theorem str_ext {x y : Str} (h : x.cps.toList = y.cps.toList) : x = y := by
  cases x with | mk a => cases y with | mk b => cases a; cases b; simp at h; subst h; rfl

section
variable {prog : Program} {w : World} {h₀ : Heap} {C : Cx} {ρ : Vs}
theorem ev_sub {o e1 e2 : Expr} {apos pos : Pos} {P : Addr} {code : Array Nat} {next : Array Nat → Nat → Option (Nat × Nat)} {r x y : Str} (hv : EvV prog w h₀ C ρ o (.ref P)) (hp : IsPat h₀ P code) (h1 : EvD prog w h₀ C ρ e1 (.str r)) (h2 : EvD prog w h₀ C ρ e2 (.str x)) (hf : Finds code x.cps (next x.cps)) (hx : x.cps.size ≤ 1000) (hr : r.cps.contains 92 = false)
    (hy : (subPieces x.cps r (next x.cps) (x.cps.size + 1) 0).flatMap (·.cps.toList) = y.cps.toList) (hl : (subPieces x.cps r (next x.cps) (x.cps.size + 1) 0).length ≤ 2 * x.cps.size + 1) (hyl : y.cps.toList.length ≤ 100000)
    (hbase : ∀ env, attributeBase o (Str.ofString "sub") env (eval o env) = eval o env := by intro _; rfl) (hline : (apos.endLine == pos.line) = true := by rfl)
    (hfew : ∀ env, ((backTo pos (starEach [e1, e2] env)).all (fun x => !x.1) && (backToKw pos (keywordEach [] env)).all (fun x => x.1.isSome) && decide (([e1, e2] : List Expr).length + ([] : List Keyword).length + (if ([] : List Keyword).isEmpty then 0 else 1) < 30)) = true := by intro _; rfl)
    (he1 : ∀ env, starEach [e1, e2] env = (false, eval e1 env) :: starEach [e2] env := by intro _; rfl) (he2 : ∀ env, starEach [e2] env = (false, eval e2 env) :: starEach [] env := by intro _; rfl)
    (hplain : ∀ pos env, (backTo pos (starEach [e1, e2] env)).any (·.1) = false := by intro _ _; rfl) :
    EvD prog w h₀ C ρ (.Call (.Attribute o (Str.ofString "sub") apos) [e1, e2] [] pos) (.str y) := fun s H => by
  refine wpAny_Call_method (T := "re.Pattern") (id := "re.Pattern.sub") (hbase _) (hfew _) hline pattern_attrs slot_sub type_sub (hv.then H fun s₁ k₁ H₁ => ?_)
  have hp₁ := hp.keep H₁.top
  have hp' := hp₁
  obtain ⟨fs, T, ws, n, g1, _⟩ := hp'
  refine ⟨⟨_, g1, rfl⟩, (fun a q => by cases q; exact ⟨_, g1, rfl⟩), Calls.callWith_builtin (hplain _ _) ?_⟩
  have hargs : EvsD prog w h₀ C ρ [e1, e2] [.str r, .str x] := evs_cons h1 (evs_cons h2 evs_nil he2) he1
  have key : wpAny (model prog w) C.A (spliced (backTo pos (starEach [e1, e2] C.env))) (fun vs s₂ => wpAny (model prog w) C.A (call (.builtin "re.Pattern.sub") ([.ref P] ++ vs) []) (fun v s' => Keeps s s' ∧ Is C.X s'.heap v (.str y)) no s₂) no s₁ :=
    hargs.then H₁ fun vs s₂ k₂ H₂ i₂ => by
      obtain ⟨v, u, rfl, i1, i2⟩ := i₂.two
      obtain ⟨tr, rfl⟩ := i1.str_inv
      obtain ⟨t, rfl⟩ := i2.str_inv
      refine wpAny_mono (sub_spec (hp.keep H₂.top) hf hx hr (joinOk_list _ (by rw [hy]; omega)) (by rw [sizeLine_eq]; omega)) (fun v s₃ z => ⟨keeps_trans k₁ (keeps_trans k₂ z.1), ?_⟩) fun _ _ z => z
      obtain ⟨t', rfl⟩ := z.2
      have e : Txt.join ⟨#[]⟩ (subPieces x.cps r (next x.cps) (x.cps.size + 1) 0) = y := str_ext (by rw [join_list, hy])
      rw [e]
      exact .str _ _
  rw [he1] at key ⊢
  exact Calls.evalArgs_plain key

/-- what is sent -/
def quoted (x : Str) : Str := ⟨(dotL true (nlL false x.cps.toList)).toArray⟩
end
end Mine

set_option Elab.async false
set_option maxRecDepth 100000
set_option maxHeartbeats 8000000
namespace Mine
open_top hd2 for PySem.Challenge.rw_rl0057_02
end Mine

set_option Elab.async false
set_option linter.unusedVariables false
set_option linter.unusedSimpArgs false
set_option maxRecDepth 100000
namespace Mine
open PySem.Challenge

/-! small steps by themselves -/
local macro_rules | `(tactic| walk_at "m mem") => `(tactic| first
  | with_reducible exact put_head
  | with_reducible exact List.mem_cons_self
  | (with_reducible refine put_tail (by decide +kernel) ?_; walk_at "m mem")
  | (with_reducible refine List.mem_cons_of_mem _ ?_; walk_at "m mem")
  | (with_reducible refine cap_mem (by kernel_rfl) ?_; walk_at "m mem"))

noncomputable abbrev KK (w : World) : Frag := hd2.heap_39 w.params
def fdAt (K : Frag) (f : Addr) : Option FuncData := match K.lookup f with
  | some ⟨_, _, .func fd, _⟩ => some fd
  | _ => none
def bdAt (K : Frag) (f : Addr) : List Stmt := match fdAt K f with
  | some fd => (match fd.body with | .stmts b => b | _ => [])
  | _ => []
def scAt (K : Frag) (f : Addr) : Scope := match fdAt K f with
  | some fd => fd.scope
  | _ => default
def fnAtOk (K : Frag) (f : Addr) (xs : List Str) : Bool := match fdAt K f with
  | some fd => codeIn K fd.code fd.qualname && (match fd.body with | .stmts _ => true | _ => false) && fd.closure.isEmpty && fd.globals == mainGlobals && fd.builtins == builtinsNs && fnOk fd.scope xs
  | _ => false
theorem fdAt_in {K : Frag} {h : Heap} {f : Addr} {fd : FuncData} (KX : K.In h) (e : fdAt K f = some fd) : ∃ ob, h.get? f = some ob ∧ ob.data = .func fd := by
  unfold fdAt at e
  split at e
  · rename_i q; cases e; exact ⟨_, KX _ _ q, rfl⟩
  · cases e

section
variable {prog : Program} {w : World} {h₀ : Heap} {mg mb : Str → Option Value}

theorem fn_K {K : Frag} {f : Addr} {n : Nat} {ds : List D} {d : D} (xs : List Str) (KX : K.In h₀) (lim : h₀.NoLimit) (hok : fnAtOk K f xs = true) (hlen : xs.length = ds.length) (hbind : ∀ fd, fdAt K f = some fd → ∀ vs : List Value, vs.length = xs.length → bindArgs fd ⟨vs, []⟩ = pure (xs.zip vs))
    (h : ∀ C, InFn C (scAt K f) n → ExsD prog w h₀ C (xs.zip ds) (bdAt K f) (.ret d)) : FnD prog w h₀ f (n + 1) ds d := by
  unfold fnAtOk at hok
  split at hok
  · rename_i fd e
    obtain ⟨ob, ho, hd⟩ := fdAt_in KX e
    simp only [Bool.and_eq_true, beq_iff_eq, List.isEmpty_iff] at hok
    obtain ⟨⟨⟨⟨⟨a1, a2⟩, a3⟩, a4⟩, a5⟩, a6⟩ := hok
    have hsc : scAt K f = fd.scope := by unfold scAt; rw [e]
    have hb : fd.body = .stmts (bdAt K f) := by
      unfold bdAt; rw [e]
      dsimp only
      split at a2
      · rename_i q; rw [q]
      · cases a2
    rw [hsc] at h
    exact fn_intro ho hd (codeRec_of KX a1) lim hb a3 a4 a5 hlen (hbind fd e) a6 h
  · cases hok

def cmpI (x y : Str) : Int := (if decide (y.cps.toList < x.cps.toList) then 1 else 0) - (if decide (x.cps.toList < y.cps.toList) then 1 else 0)

theorem strcoll_fn (KX : (KK w).In h₀) (lim : h₀.NoLimit) (x y : Str) : FnD prog w h₀ 62 1 [.str x, .str y] (.int (cmpI x y)) := by
  refine fn_K ["a", "b"] KX lim (by kernel_rfl) rfl ?_ ?_
  · intro fd e vs hl
    match vs, hl with
    | [u, v], _ => cases e; rfl
  · intro C I
    show ExsD _ _ _ _ [("a", .str x), ("b", .str y)] _ _
    conv => arg 6; whnf
    refine exs_ret (ex_ret (ev_bin (ev_cmp (ev_name ?_) (ev_name ?_) cmp_gt_str) (ev_cmp (ev_name ?_) (ev_name ?_) cmp_lt_str) bin_sub_bool))
    all_goals walk_at "m mem"

theorem EvV.toD {C : Cx} {ρ : Vs} {e : Expr} {v : Value} {d : D} (h : EvV prog w h₀ C ρ e v) (hi : ∀ X h, Is X h v d) : EvD prog w h₀ C ρ e d := fun s H =>
  wpAny_mono (h s H) (fun u s' z => ⟨z.1, by rw [z.2]; exact hi _ _⟩) fun _ _ z => z
def patIn (K : Frag) (P : Addr) (code : List Nat) : Bool := match K.lookup P with
  | some ⟨.type c, none, .fields fs, sl⟩ => c == "re.Pattern" && sl.size == 0 && Builtin.Re.reRawNat (fs.getD 2 .none) == 0 && Builtin.Re.reRawNat (fs.getD 6 .none) == 0 && (match fs.getD 5 .none with
    | .ref T => (match K.lookup T with
      | some ⟨.type c2, none, .seq ws _, sl2⟩ => c2 == "tuple" && sl2.size == 0 && ((ws.map Builtin.Re.reRawOf).map (·.toNat)).toList == code
      | _ => false)
    | _ => false)
  | _ => false
theorem isPat_of {K : Frag} {h : Heap} {P : Addr} {code : Array Nat} (KX : K.In h) (x : patIn K P code.toList = true) : IsPat h P code := by
  unfold patIn at x
  split at x
  · rename_i c fs sl hg
    simp only [Bool.and_eq_true, beq_iff_eq, Array.size_eq_zero_iff] at x
    obtain ⟨⟨⟨⟨rfl, rfl⟩, h3⟩, h4⟩, hT⟩ := x
    split at hT
    · rename_i T hf
      split at hT
      · rename_i c2 ws n sl2 hg2
        simp only [Bool.and_eq_true, beq_iff_eq, Array.size_eq_zero_iff] at hT
        obtain ⟨⟨rfl, rfl⟩, h6⟩ := hT
        exact ⟨fs, T, ws, n, KX _ _ hg, hf, h3, h4, KX _ _ hg2, Array.toList_inj.mp h6⟩
      · cases hT
    · cases hT
  · cases x

theorem quotedata_fn (KX : (KK w).In h₀) (lim : h₀.NoLimit) (G : h₀.Ns mainGlobals mg) (x : Str) (hx : x.cps.size ≤ 400) : FnD prog w h₀ 55 1 [.str x] (.str (quoted x)) := by
  have p1 : IsPat h₀ 43 dotCode := isPat_of KX (by kernel_rfl)
  have p2 : IsPat h₀ 48 nlCode := isPat_of KX (by kernel_rfl)
  have m1 : mg "_twin_re_1" = some (.ref 43) := mg_of KX G (by kernel_rfl)
  have m2 : mg "_twin_re_2" = some (.ref 48) := mg_of KX G (by kernel_rfl)
  have m3 : mg "CRLF" = some (.str ⟨#[13, 10]⟩ 349) := mg_of KX G (by kernel_rfl)
  refine fn_K ["data"] KX lim (by kernel_rfl) rfl ?_ ?_
  · intro fd e vs hl
    match vs, hl with
    | [u], _ => cases e; rfl
  · intro C I
    show ExsD _ _ _ _ [("data", .str x)] _ _
    conv => arg 6; whnf
    have l2 : (nlL false x.cps.toList).length ≤ 800 := Nat.le_trans (nlL_len _ _) (by rw [Array.length_toList]; omega)
    have l3 := dotL_len true (nlL false x.cps.toList)
    refine exs_ret (ex_ret (ev_sub (next := next1) (x := ⟨(nlL false x.cps.toList).toArray⟩) (ev_glob G m1 I.scp (by kernel_rfl)) p1 ev_str
      (ev_sub (next := next2) (x := x) (ev_glob G m2 I.scp (by kernel_rfl)) p2 (r := ⟨#[13, 10]⟩) ?_ (ev_name ?_) (finds2 _) (by omega) (by decide +kernel) (nl_pieces x.cps).1 (nl_pieces x.cps).2 (by simp; omega)) (finds1 _ ?_) ?_ (by decide +kernel) (dot_pieces _).1 (dot_pieces _).2 ?_))
    · exact EvV.toD (ev_glob G m3 I.scp (by kernel_rfl)) fun _ _ => .str _ _
    · walk_at "m mem"
    · simp; omega
    · simp; omega
    · show (dotL true (nlL false x.cps.toList)).toArray.toList.length ≤ 100000
      simp; omega
end
end Mine

set_option Elab.async false
set_option linter.unusedVariables false
set_option linter.unusedSimpArgs false
set_option maxRecDepth 100000
namespace Mine
open PySem.Challenge

local macro_rules | `(tactic| walk_at "m mem") => `(tactic| first
  | with_reducible exact put_head
  | with_reducible exact List.mem_cons_self
  | (with_reducible refine put_tail (by decide +kernel) ?_; walk_at "m mem")
  | (with_reducible refine List.mem_cons_of_mem _ ?_; walk_at "m mem")
  | (with_reducible refine cap_mem (by kernel_rfl) ?_; walk_at "m mem"))
theorem allIn_nil {ρ : Vs} : ∀ p ∈ ([] : Vs), p ∈ ρ := fun p hp => nomatch hp
theorem allIn_cons {ρ l : Vs} {a : Str × D} (h : a ∈ ρ) (r : ∀ p ∈ l, p ∈ ρ) : ∀ p ∈ a :: l, p ∈ ρ := fun p hp => by
  rcases List.mem_cons.mp hp with rfl | hp
  · exact h
  · exact r p hp
local macro_rules | `(tactic| walk_at "m sub") => `(tactic| first
  | with_reducible exact allIn_nil
  | (with_reducible refine allIn_cons (by walk_at "m mem") ?_; walk_at "m sub"))

section
variable {prog : Program} {w : World} {h₀ : Heap} {mg mb : Str → Option Value} {C : Cx} {ρ : Vs}

theorem iadd {a b : Int} : ∀ va vb s, Sat h₀ C ρ s → Is C.X s.heap va (.int a) → Is C.X s.heap vb (.int b) → wpAny (model prog w) C.A (inplaceOp .Add va vb) (fun v s' => Keeps s s' ∧ Is C.X s'.heap v (.int (a + b))) no s := fun va vb s H ia ib => by
  obtain ⟨t, rfl⟩ := ia.int_inv; obtain ⟨u, rfl⟩ := ib.int_inv
  exact PyProof.Rows.iadd_int ⟨keeps_toks s _, .int _ _⟩
theorem isub {a b : Int} : ∀ va vb s, Sat h₀ C ρ s → Is C.X s.heap va (.int a) → Is C.X s.heap vb (.int b) → wpAny (model prog w) C.A (inplaceOp .Sub va vb) (fun v s' => Keeps s s' ∧ Is C.X s'.heap v (.int (a - b))) no s := fun va vb s H ia ib => by
  obtain ⟨t, rfl⟩ := ia.int_inv; obtain ⟨u, rfl⟩ := ib.int_inv
  exact isub_int ⟨keeps_toks s _, .int _ _⟩

theorem part_some {e : Expr} {k : Int} (h : EvD prog w h₀ C ρ e (.int k)) : PartD prog w h₀ C ρ (some e) (some k) := h
theorem part_none : PartD prog w h₀ C ρ none none := trivial
theorem wh_count {t : Expr} {body : List Stmt} {o : Out} (r : Nat → Vs) (n : Nat) (h0 : WhD prog w h₀ C (r n) t body o) (hs : ∀ i, i < n → WhD prog w h₀ C (r (i + 1)) t body o → WhD prog w h₀ C (r i) t body o) : WhD prog w h₀ C (r 0) t body o := by
  have : ∀ j i, i + j = n → WhD prog w h₀ C (r i) t body o := by
    intro j
    induction j with
    | zero => intro i hi; rw [show i = n by omega]; exact h0
    | succ j ih => intro i hi; exact hs i (by omega) (ih (i + 1) (by omega))
  exact this n 0 (by omega)
theorem clip_nat (n i : Nat) : clipAt n (i : Int) = min i n := by
  unfold clipAt
  rw [if_neg (by omega)]
  omega
def padded (p : Nat) (c : Nat) (t : List Nat) : Str := ⟨(List.replicate p 32 ++ c :: t).toArray⟩

theorem strip_fn (KX : (KK w).In h₀) (lim : h₀.NoLimit) (G : h₀.Ns mainGlobals mg) (B : h₀.Ns builtinsNs mb) (hlen : mb "len" = some (.builtin "len")) (p k c : Nat) (t : List Nat) (hc : c ≠ 32) (ht : (c :: t).getLast? ≠ some 32) (hsz : p + t.length ≤ 1000) :
    FnD prog w h₀ 69 1 [.str (padded p c t), .int k] (.str (padded (p - min k p) c t)) := by
  have m1 : mg "len" = none := mg_none_of KX G (by kernel_rfl)
  refine fn_K ["s", "amount"] KX lim (by kernel_rfl) rfl ?_ ?_
  · intro fd e vs hl
    match vs, hl with
    | [u, v], _ => cases e; rfl
  · intro C I
    show ExsD _ _ _ _ [("s", .str (padded p c t)), ("amount", .int k)] _ _
    conv => arg 6; whnf
    refine exs_cons (ex_assign ev_int (I.sto _ (by kernel_rfl))) ?_
    refine exs_cons (ρ' := [("s", .str (padded p c t)), ("amount", .int (k - min k p : Nat)), ("lpos", .int (min k p : Nat))]) (ex_while ?_) ?_
    · have hat : ∀ i, i < p → (padded p c t).cps[i]? = some 32 := fun i hi => by
        show (List.replicate p 32 ++ c :: t).toArray[i]? = _
        rw [List.getElem?_toArray, List.getElem?_append_left (by simpa using hi), List.getElem?_replicate, if_pos hi]
      have hatp : (padded p c t).cps[p]? = some c := by
        show (List.replicate p 32 ++ c :: t).toArray[p]? = _
        rw [List.getElem?_toArray, List.getElem?_append_right (by simp)]; simp
      refine WhD.sub (wh_count (fun i => [("s", .str (padded p c t)), ("amount", .int (k - i : Nat)), ("lpos", .int i)]) (min k p) (wh_done ?_) fun i hi ih => ?_) ?_
      · by_cases hk : k ≤ p
        · exact (tr_and2 (b := false) (tr_int (ev_name (by walk_at "m mem"))) fun q => absurd q (by simp; omega)).eq (Bool.and_false _)
        · have e : min k p = p := by omega
          rw [e]
          refine (tr_and2 (b := false) (tr_int (ev_name (by walk_at "m mem"))) fun _ => (tr_cmp (ev_item_str (c := c) (ev_name (by walk_at "m mem")) (ev_name (by walk_at "m mem")) (by omega) (by omega) hatp) ev_str cmp_eq_str).eq ?_).eq (Bool.and_false _)
          have : ((⟨#[c]⟩ : Str) == " ") = false := by
            rw [beq_eq_false_iff_ne]
            intro q
            have q2 := congrArg (fun z : Str => z.cps.toList) q
            have q3 : [c] = [32] := q2
            injection q3 with q4 _
            exact hc q4
          exact this
      · refine wh_turn ((tr_and2 (b := true) (tr_int (ev_name (by walk_at "m mem"))) fun _ => (tr_cmp (ev_item_str (c := 32) (ev_name (by walk_at "m mem")) (ev_name (by walk_at "m mem")) (by omega) (by omega) (hat i (by omega))) ev_str cmp_eq_str).eq rfl).eq ?_)
          (exs_cons (ex_aug (by walk_at "m mem") ev_int (I.sto _ (by kernel_rfl)) iadd) (exs_cons (ex_aug (by walk_at "m mem") ev_int (I.sto _ (by kernel_rfl)) isub) exs_nil)) (WhD.sub ih ?_)
        · simp; omega
        · have e1 : ((k - i : Nat) : Int) - 1 = ((k - (i + 1) : Nat) : Int) := by omega
          have e2 : (i : Int) + 1 = ((i + 1 : Nat) : Int) := by omega
          rw [e1, e2]
          walk_at "m sub"
      · change ∀ q ∈ ([("s", D.str (padded p c t)), ("amount", D.int k), ("lpos", D.int 0)] : Vs), q ∈ (_ : Vs)
        walk_at "m sub"
    have hL : (padded p c t).length = p + t.length + 1 := by show (List.replicate p 32 ++ c :: t).toArray.size = _; simp; omega
    refine exs_cons (ex_assign (ev_bin (ev_callB (ev_bi G m1 B hlen I.scp (by kernel_rfl)) (evs_cons (ev_name (by walk_at "m mem")) evs_nil) (bi_len_str (by rw [hL]; omega))) ev_int bin_sub_int) (I.sto _ (by kernel_rfl))) ?_
    rw [hL]
    refine exs_cons (ex_while (wh_done ((tr_and2 (b := false) (tr_int (ev_name (by walk_at "m mem"))) fun _ => (tr_cmp (ev_item_str (c := (c :: t).getLast (by simp)) (ev_name (by walk_at "m mem")) (ev_name (by walk_at "m mem")) (by omega) (by omega) ?_) ev_str cmp_eq_str).eq ?_).eq (Bool.and_false _)))) ?_
    · show (List.replicate p 32 ++ c :: t).toArray[(((p + t.length + 1 : Nat) : Int) - 1).toNat]? = _
      have e : (((p + t.length + 1 : Nat) : Int) - 1).toNat = (List.replicate p 32 ++ c :: t).length - 1 := by simp; omega
      rw [e, List.getElem?_toArray, ← List.getLast?_eq_getElem?, List.getLast?_append, List.getLast?_eq_some_getLast (by simp : c :: t ≠ [])]
      rfl
    · rw [List.getLast?_eq_some_getLast (by simp : c :: t ≠ [])] at ht
      have hne : (c :: t).getLast (by simp) ≠ 32 := fun q => ht (by rw [q])
      have : ((⟨#[(c :: t).getLast (by simp)]⟩ : Str) == " ") = false := by
        rw [beq_eq_false_iff_ne]
        intro q
        have q2 := congrArg (fun z : Str => z.cps.toList) q
        have q3 : [(c :: t).getLast (by simp)] = [32] := q2
        injection q3 with q4 _
        exact hne q4
      exact this
    refine exs_ret (ex_ret ((ev_slice_str (ev_name (by walk_at "m mem")) (part_some (ev_name (by walk_at "m mem"))) (part_some (ev_bin (ev_name (by walk_at "m mem")) ev_int bin_add_int)) ?_).eq ?_))
    · rw [hL, sizeLine_eq]; omega
    · refine congrArg D.str (str_ext ?_)
      show sliceL (List.replicate p 32 ++ c :: t) (some ((min k p : Nat) : Int)) (some (((p + t.length + 1 : Nat) : Int) - 1 + 1)) = List.replicate (p - min k p) 32 ++ c :: t
      unfold sliceL
      have h1 : clipAt (List.replicate p 32 ++ c :: t).length ((min k p : Nat) : Int) = min k p := by rw [clip_nat]; simp
      have h2 : clipAt (List.replicate p 32 ++ c :: t).length (((p + t.length + 1 : Nat) : Int) - 1 + 1) = (List.replicate p 32 ++ c :: t).length := by
        rw [show (((p + t.length + 1 : Nat) : Int) - 1 + 1) = ((p + t.length + 1 : Nat) : Int) by omega, clip_nat]; simp; omega
      show (List.drop (clipAt _ _) _).take (clipAt _ _ - clipAt _ _) = _
      rw [h1, h2, List.take_of_length_le (by simp), List.drop_append_of_le_length (by simp; omega), List.drop_replicate]
end
end Mine

set_option Elab.async false
set_option linter.unusedVariables false
set_option linter.unusedSimpArgs false
set_option maxRecDepth 100000
namespace Mine
open PySem.Challenge

local macro_rules | `(tactic| walk_at "m mem") => `(tactic| first
  | with_reducible exact put_head
  | with_reducible exact List.mem_cons_self
  | (with_reducible refine put_tail (by decide +kernel) ?_; walk_at "m mem")
  | (with_reducible refine List.mem_cons_of_mem _ ?_; walk_at "m mem")
  | (with_reducible refine cap_mem (by kernel_rfl) ?_; walk_at "m mem"))
local macro_rules | `(tactic| walk_at "m sub") => `(tactic| first
  | with_reducible exact allIn_nil
  | (with_reducible refine allIn_cons (by walk_at "m mem") ?_; walk_at "m sub"))

section
variable {prog : Program} {w : World} {h₀ : Heap} {mg mb : Str → Option Value} {C : Cx} {ρ : Vs} {K : Frag} {c : Addr}

/-! the body of a class's __init__ -/
def IniD (prog : Program) (w : World) (h₀ : Heap) (C : Cx) (c x dx : Addr) (ρ : Vs) (ns : List Str) (vs : List D) (sts : List Stmt) (ns' : List Str) (vs' : List D) : Prop :=
  ∀ s, Sat h₀ C ρ s → InstS C c x dx ns vs s →
    wpAny (model prog w) C.A (execs sts C.env) (fun f s' => f = .next ∧ KeepsW (fun a => a = dx ∨ C.W a) s s' ∧ InstS C c x dx ns' vs' s') no s
theorem ini_nil {x dx : Addr} {ns : List Str} {vs : List D} : IniD prog w h₀ C c x dx ρ ns vs [] ns vs := fun s H i => wpAny_execs_nil ⟨rfl, keepsW_refl _ s, i⟩
theorem ini_ex {x dx : Addr} {ns ns' : List Str} {vs vs' : List D} {st : Stmt} {rest : List Stmt} {ρ' : Vs} (o : Owns h₀ C x dx) (h : ExD prog w h₀ C ρ st (.next ρ')) (hr : IniD prog w h₀ C c x dx ρ' ns vs rest ns' vs') :
    IniD prog w h₀ C c x dx ρ ns vs (st :: rest) ns' vs' := fun s H i => by
  refine wpAny_execs_cons (wpAny_mono (h s H) (fun f s₁ z => ?_) fun _ _ z => z)
  obtain ⟨k₁, rfl, H₁⟩ := z
  exact wpAny_mono (hr s₁ H₁ (i.keepsW H.good o k₁)) (fun f s₂ z => ⟨z.1, keepsW_trans (keepsW_mono (fun a q => .inr q) k₁) z.2.1, z.2.2⟩) fun _ _ z => z
theorem ini_attr {x dx : Addr} {ns ns' : List Str} {vs vs' : List D} {self name : Str} {p ap pos : Pos} {e : Expr} {d : D} {rest : List Stmt} (o : Owns h₀ C x dx) (KX : K.In h₀) (ok : ClsOk K c)
    (hself : EvV prog w h₀ C ρ (.Name self p) (.ref x)) (he : EvD prog w h₀ C ρ e d) (hr : IniD prog w h₀ C c x dx ρ (ns ++ [name]) (vs ++ [d]) rest ns' vs') (hn : name ∉ ns) (ht : takerIn K c name = some none) (hz : ns.length < 1000)
    (hs : swapsWith e (some (.Attribute (.Name self p) name ap)) pos.line C.env = pure false := by rfl) :
    IniD prog w h₀ C c x dx ρ ns vs (.Assign [.Attribute (.Name self p) name ap] e pos :: rest) ns' vs' := fun s H i => by
  refine wpAny_execs_cons (st_attr H KX ok o i hself he hn ht hz (fun s₁ H₁ k₁ i₁ => ?_) hs)
  exact wpAny_mono (hr s₁ H₁ i₁) (fun f s₂ z => ⟨z.1, keepsW_trans k₁ z.2.1, z.2.2⟩) fun _ _ z => z
theorem ini_for {x dx : Addr} {ns ns' : List Str} {vs vs' : List D} {target iter : Expr} {body : List Stmt} {pos : Pos} {src : D} {ds : List D} {ρ' : Vs} {rest : List Stmt} (o : Owns h₀ C x dx)
    (hs : ∀ s, Sat h₀ C ρ s → InstS C c x dx ns vs s → wpAny (model prog w) C.A (eval iter C.env) (fun v s' => Keeps s s' ∧ Is C.X s'.heap v src) no s) (hi : IterD src ds) (h : ForD prog w h₀ C ρ target body ds (.next ρ'))
    (hr : IniD prog w h₀ C c x dx ρ' ns vs rest ns' vs') (hfold : ∀ env x, foldedSetIterable iter env x = pure x := by intro _ _; rfl) :
    IniD prog w h₀ C c x dx ρ ns vs (.For target iter body [] pos :: rest) ns' vs' := fun s H i => by
  refine wpAny_execs_cons (wpAny_mono (ex_for_at H (hs s H i) hi h hfold) (fun f s₁ z => ?_) fun _ _ z => z)
  obtain ⟨k₁, rfl, H₁⟩ := z
  exact wpAny_mono (hr s₁ H₁ (i.keepsW H.good o k₁)) (fun f s₂ z => ⟨z.1, keepsW_trans (keepsW_mono (fun a q => .inr q) k₁) z.2.1, z.2.2⟩) fun _ _ z => z

/-- a class of the file is called -/
theorem new_K {K : Frag} {fI : Addr} {n : Nat} {ds : List D} {ns : List Str} {vs' : List D} (xs : List Str) (KX : K.In h₀) (lim : h₀.NoLimit) (hm : makesIn K c = true) (hi : findIn K (.ref c) "__init__" = some (some (.ref fI))) (hfn : typeIn K (.ref fI) = some (.type "function"))
    (hok : fnAtOk K fI xs = true) (hlen : xs.length = ds.length + 1) (hbind : ∀ fd, fdAt K fI = some fd → ∀ vs : List Value, vs.length = xs.length → bindArgs fd ⟨vs, []⟩ = pure (xs.zip vs))
    (h : ∀ C x dx, InFn C (scAt K fI) n → Owns h₀ C x dx → IniD prog w h₀ C c x dx (xs.zip (.raw (.ref x) :: ds)) [] [] (bdAt K fI) ns vs') : FnD prog w h₀ c (n + 2) ds (.obj c ns vs') := by
  unfold fnAtOk at hok
  split at hok
  · rename_i fd e
    obtain ⟨ob, ho, hd⟩ := fdAt_in KX e
    simp only [Bool.and_eq_true, beq_iff_eq, List.isEmpty_iff] at hok
    obtain ⟨⟨⟨⟨⟨a1, a2⟩, a3⟩, a4⟩, a5⟩, a6⟩ := hok
    have hsc : scAt K fI = fd.scope := by unfold scAt; rw [e]
    have hb : fd.body = .stmts (bdAt K fI) := by
      unfold bdAt; rw [e]
      dsimp only
      split at a2
      · rename_i q; rw [q]
      · cases a2
    rw [hsc] at h
    exact new_intro KX hm hi hfn ho hd (codeRec_of KX a1) lim hb a3 a4 a5 hlen (hbind fd e) a6 fun C s₁ x dx I o H i => h C x dx I o s₁ H i
  · cases hok

def clsIn (K : Frag) (c : Addr) : Bool := findIn K (.ref c) "__getattribute__" == some (some (.builtin "object.__getattribute__")) && findIn K (.ref c) "__getattr__" == some none && findIn K (.ref c) "__setattr__" == some (some (.builtin "object.__setattr__")) && hasDictIn K c && plainOver K c
theorem clsOk : ClsOk (KK w) 131 := ⟨by kernel_rfl, by kernel_rfl, by kernel_rfl, by kernel_rfl, by kernel_rfl⟩
end
end Mine

set_option Elab.async false
set_option linter.unusedVariables false
set_option linter.unusedSimpArgs false
namespace Mine
open PySem.Builtin PySem.Builtin.Str

/-! texts -/
def turnC (c d : Nat) (k : Nat) : Nat := if k = c then d else k
theorem turnC_free (c d : Nat) : ∀ l : List Nat, c ∉ l → l.map (turnC c d) = l
  | [], _ => rfl
  | k :: r, h => by
    rw [List.map_cons, turnC_free c d r fun m => h (.tail _ m)]
    have hk : k ≠ c := fun q => h (by rw [q]; exact .head _)
    simp [turnC, hk]
theorem turnC_join (c d : Nat) : ∀ parts : List Str, (∀ p ∈ parts, c ∉ p.cps.toList) → (Str.join ⟨#[c]⟩ parts).cps.toList.map (turnC c d) = (Str.join ⟨#[d]⟩ parts).cps.toList
  | [], _ => rfl
  | [p], h => turnC_free c d _ (h p (List.mem_singleton.mpr rfl))
  | p :: q :: r, h => by
    have ih := turnC_join c d (q :: r) fun a ha => h a (List.mem_cons_of_mem _ ha)
    show (p ++ ⟨#[c]⟩ ++ Str.join ⟨#[c]⟩ (q :: r)).cps.toList.map (turnC c d) = (p ++ ⟨#[d]⟩ ++ Str.join ⟨#[d]⟩ (q :: r)).cps.toList
    simp only [Str.cps_append, Array.toList_append, List.map_append]
    rw [ih, turnC_free c d _ (h p (List.mem_cons_self ..))]
    simp [turnC]
theorem replace_map (x : Str) (c d : Nat) : (Txt.replace x ⟨#[c]⟩ ⟨#[d]⟩).cps.toList = x.cps.toList.map (turnC c d) := by
  rw [StrLaws.replace_one, ← turnC_join c d _ (StrLaws.split_free x c), StrLaws.join_split]

theorem map_rep (c d n : Nat) : (List.replicate n c).map (turnC c d) = List.replicate n d := by
  rw [List.map_replicate]; simp [turnC]

theorem nlL_plain : ∀ (l : List Nat) (r : List Nat), (∀ k ∈ l, k ≠ 10 ∧ k ≠ 13) → nlL false (l ++ r) = l ++ nlL false r
  | [], r, _ => rfl
  | k :: l, r, h => by
    have ih := nlL_plain l r fun a ha => h a (.tail _ ha)
    obtain ⟨h1, h2⟩ := h k (.head _)
    show nlL false (k :: (l ++ r)) = k :: (l ++ nlL false r)
    rw [nlL, if_neg h2, if_neg h1, ih]
theorem dotL_plain : ∀ (l : List Nat) (r : List Nat), (∀ k ∈ l, k ≠ 10) → dotL false (l ++ r) = l ++ dotL false r
  | [], r, _ => rfl
  | k :: l, r, h => by
    have ih := dotL_plain l r fun a ha => h a (.tail _ ha)
    have h1 := h k (.head _)
    show dotL false (k :: (l ++ r)) = k :: (l ++ dotL false r)
    rw [dotL, if_neg (by simp), beq_eq_false_iff_ne.mpr h1, ih]
/-- a line's end -/
def IsEnd (e : List Nat) : Prop := e = [10] ∨ e = [13] ∨ e = [13, 10]
theorem nlL_end {e r : List Nat} (he : IsEnd e) (hr : r.head? ≠ some 10) : nlL false (e ++ r) = 13 :: 10 :: nlL false r := by
  rcases he with rfl | rfl | rfl
  · show nlL false (10 :: r) = _
    rw [nlL]; simp
  · show nlL false (13 :: r) = _
    rw [nlL]; simp [nl_plain hr]
  · show nlL false (13 :: 10 :: r) = _
    rw [nlL, nlL]; simp
theorem dotL_line {l r : List Nat} (hl : ∀ k ∈ l, k ≠ 10) : dotL true (46 :: (l ++ 13 :: 10 :: r)) = 46 :: 46 :: (l ++ 13 :: 10 :: dotL true r) := by
  rw [dotL, if_pos ⟨rfl, rfl⟩, dotL_plain _ _ hl, dotL, if_neg (by simp), dotL, if_neg (by simp)]
  rfl
theorem str_of {x : Str} {l : List Nat} (h : x.cps.toList = l) : x = ⟨l.toArray⟩ := str_ext (by rw [h])

/-! a line of blanks and two letters goes one in -/
theorem dots_text {p c d : Nat} (hc : 60 ≤ c) (hd : 60 ≤ d) : Txt.replace ⟨(List.replicate p 32 ++ c :: [d]).toArray⟩ ⟨#[32]⟩ ⟨#[46]⟩ = ⟨(List.replicate p 46 ++ [c, d]).toArray⟩ := by
  refine str_of ?_
  rw [replace_map]
  show List.map _ (List.replicate p 32 ++ c :: [d]) = _
  rw [List.map_append, map_rep, turnC_free 32 46 [c, d] (by simp; omega)]
theorem quoted_dots {p c d : Nat} {e : List Nat} (hp : 1 ≤ p) (hc : 60 ≤ c) (hd : 60 ≤ d) (he : IsEnd e) : quoted (⟨(List.replicate p 46 ++ [c, d]).toArray⟩ ++ ⟨e.toArray⟩) = ⟨(List.replicate (p + 1) 46 ++ [c, d, 13, 10]).toArray⟩ := by
  have h1 : (⟨(List.replicate p 46 ++ [c, d]).toArray⟩ ++ ⟨e.toArray⟩ : Str).cps.toList = (List.replicate p 46 ++ [c, d]) ++ (e ++ []) := by
    rw [Str.cps_append, Array.toList_append]
    simp
  have hpl : ∀ k ∈ List.replicate p 46 ++ [c, d], k ≠ 10 ∧ k ≠ 13 := by
    intro k hk
    simp only [List.mem_append, List.mem_replicate, List.mem_cons, List.not_mem_nil, or_false] at hk
    omega
  obtain ⟨p, rfl⟩ : ∃ q, p = q + 1 := ⟨p - 1, by omega⟩
  refine str_of ?_
  show (dotL true (nlL false _)).toArray.toList = _
  rw [h1, nlL_plain _ _ hpl, nlL_end he (by simp)]
  show dotL true ((46 :: List.replicate p 46) ++ [c, d] ++ [13, 10]) = _
  have := dotL_line (l := List.replicate p 46 ++ [c, d]) (r := []) (by
    intro k hk
    simp only [List.mem_append, List.mem_replicate, List.mem_cons, List.not_mem_nil, or_false] at hk
    omega)
  simp only [List.append_assoc, List.cons_append, List.nil_append] at this ⊢
  rw [this]
  simp [List.replicate_succ, dotL]
theorem blanks_text {q c d : Nat} (hc : 60 ≤ c) (hd : 60 ≤ d) : Txt.replace ⟨(List.replicate q 46 ++ [c, d, 13, 10]).toArray⟩ ⟨#[46]⟩ ⟨#[32]⟩ = ⟨(List.replicate q 32 ++ [c, d, 13, 10]).toArray⟩ := by
  refine str_of ?_
  rw [replace_map]
  show List.map _ (List.replicate q 46 ++ [c, d, 13, 10]) = _
  rw [List.map_append, map_rep, turnC_free 46 32 [c, d, 13, 10] (by simp; omega)]
theorem cut_text (q c d : Nat) : sliceL (List.replicate q 32 ++ [c, d, 13, 10]) none (some (-2)) = List.replicate q 32 ++ [c, d] := by
  unfold sliceL
  have h : clipAt (List.replicate q 32 ++ [c, d, 13, 10]).length (-2) = (List.replicate q 32 ++ [c, d]).length := by
    unfold clipAt
    simp
    omega
  show (List.drop 0 _).take (clipAt _ _ - 0) = _
  rw [h, List.drop_zero, Nat.sub_zero]
  have : List.replicate q 32 ++ [c, d, 13, 10] = (List.replicate q 32 ++ [c, d]) ++ [13, 10] := by simp
  rw [this, List.take_left]
end Mine

set_option Elab.async false
set_option linter.unusedVariables false
set_option linter.unusedSimpArgs false
set_option maxRecDepth 100000
namespace Mine
open PySem.Challenge

local macro_rules | `(tactic| walk_at "m mem") => `(tactic| first
  | with_reducible exact put_head
  | with_reducible exact List.mem_cons_self
  | (with_reducible apply put_tail (h := by decide +kernel); walk_at "m mem")
  | (with_reducible refine List.mem_cons_of_mem _ ?_; walk_at "m mem")
  | (with_reducible refine cap_mem (by kernel_rfl) ?_; walk_at "m mem"))
local macro_rules | `(tactic| walk_at "m sub") => `(tactic| first
  | with_reducible exact allIn_nil
  | (with_reducible refine allIn_cons (by walk_at "m mem") ?_; walk_at "m sub"))

def D.okd (n : Nat) (d : D) : Bool := d.flat && d.toPy.canLay0 && decide (d.toPy.depth ≤ n)
theorem okd_ok {n : Nat} {d : D} (h : d.okd n = true) (hn : n ≤ 64) : d.ok = true := by
  unfold D.okd at h; unfold D.ok SeqAt.shaped
  simp only [Bool.and_eq_true, decide_eq_true_eq] at h ⊢
  exact ⟨h.1.1, h.1.2, Nat.le_trans h.2 hn⟩
theorem okd_int (i : Int) (n : Nat) : (D.int i).okd n = true := by
  unfold D.okd; simp [D.flat, D.toPy, PyData.canLay0, PyData.depth]
theorem okd_bool (i : Bool) (n : Nat) : (D.bool i).okd n = true := by
  unfold D.okd; simp [D.flat, D.toPy, PyData.canLay0, PyData.depth]
theorem okd_str {x : Str} (h : PyData.strOk x = true) (n : Nat) : (D.str x).okd n = true := by
  unfold D.okd; simp [D.flat, D.toPy, PyData.canLay0, PyData.depth, h]
theorem okd_all {n : Nat} : ∀ {l : List D}, (∀ d ∈ l, d.okd n = true) → D.flats l = true ∧ PyData.canLayAll0 (D.toPys l) = true ∧ PyData.depthAll (D.toPys l) ≤ n
  | [], _ => ⟨rfl, rfl, Nat.zero_le _⟩
  | d :: l, h => by
    obtain ⟨a, b, c⟩ := okd_all fun e he => h e (.tail _ he)
    have q := h d (.head _)
    unfold D.okd at q
    simp only [Bool.and_eq_true, decide_eq_true_eq] at q
    refine ⟨by simp [D.flats, a, q.1.1], by simp [D.toPys, PyData.canLayAll0, q.1.2, b], ?_⟩
    simp only [D.toPys, PyData.depthAll]
    omega
theorem okd_list {n : Nat} {l : List D} (h : ∀ d ∈ l, d.okd n = true) : (D.list l).okd (n + 1) = true := by
  obtain ⟨a, b, c⟩ := okd_all h
  unfold D.okd
  simp [D.flat, D.toPy, PyData.canLay0, PyData.depth, a, b, c]
theorem okd_tup {n : Nat} {l : List D} (h : ∀ d ∈ l, d.okd n = true) : (D.tup l).okd (n + 1) = true := by
  obtain ⟨a, b, c⟩ := okd_all h
  unfold D.okd
  simp [D.flat, D.toPy, PyData.canLay0, PyData.depth, a, b, c]
theorem okd_up {n m : Nat} {d : D} (h : d.okd n = true) (l : n ≤ m) : d.okd m = true := by
  unfold D.okd at h ⊢
  simp only [Bool.and_eq_true, decide_eq_true_eq] at h ⊢
  exact ⟨h.1, Nat.le_trans h.2 l⟩
theorem okd_eq {n : Nat} {d : D} (h : d.okd n = true) : PyData.eqv d.toPy d.toPy = true := by
  unfold D.okd at h
  simp only [Bool.and_eq_true, decide_eq_true_eq] at h
  exact SeqAt.eqv_refl _ h.1.2
theorem flat_filter {α : Type} (b : α → Bool) (g : α → D) : ∀ l : List α, l.flatMap (fun x => if b x then [g x] else []) = (l.filter b).map g
  | [] => rfl
  | x :: l => by
    rw [List.flatMap_cons, flat_filter b g l]
    cases h : b x <;> simp [h]
theorem flat_one {α : Type} (g : α → D) : ∀ l : List α, l.flatMap (fun x => [g x]) = l.map g
  | [] => rfl
  | x :: l => by rw [List.flatMap_cons, flat_one g l]; rfl
theorem nil_okd : (D.list []).okd 3 = true := by decide +kernel
theorem eqv_nil (l : List D) : PyData.eqv (D.list l).toPy (D.list []).toPy = l.isEmpty := by
  cases l <;> simp [D.toPy, D.toPys, PyData.eqv, PyData.eqvAll]
theorem swaps_of {env : Env} {sc : Scope} {e : Expr} {t : Option Expr} {l : Nat} {r : Bool} (hsc : env.scope = sc) (h : swapsWith e t l { env with scope := sc } = pure r) : swapsWith e t l env = pure r := by subst hsc; exact h
theorem intsFrom_map (lo : Nat) (n : Nat) : intsFrom lo n = (List.range' lo n).map fun (k : Nat) => D.int k := by
  induction n generalizing lo with
  | zero => rfl
  | succ n ih =>
    rw [List.range'_succ, List.map_cons, ← ih]
    show D.int _ :: intsFrom _ n = _
    rw [show ((lo : Nat) : Int) + 1 = ((lo + 1 : Nat) : Int) by omega]
theorem iter_upto (n : Nat) (h : n ≤ 2 ^ 60) : IterD (.range 0 n) ((List.range n).map fun (k : Nat) => D.int k) := by
  have := iter_range (lo := 0) (hi := n) n (.inl (by omega)) (by omega) (by omega) (by omega) (by omega)
  rwa [show intsFrom 0 n = _ from intsFrom_map 0 n, ← List.range_eq_range'] at this
theorem cap_ne {scope sc : Scope} {ρ : Vs} {y : Str} (hy : ownIn scope y = true) {q : Str × D} (hq : q ∈ cap scope sc ρ) : (q.1 == y) = false := by
  obtain ⟨x, e⟩ := q
  obtain ⟨_, h⟩ := List.mem_filter.mp hq
  simp only [Bool.and_eq_true] at h
  obtain ⟨h1, h2⟩ := freeIn_mem h.1
  cases hb : (x == y) with
  | false => rfl
  | true =>
    have := beq_iff_eq.mp hb
    subst this
    unfold ownIn at hy
    simp only [Bool.or_eq_true, beq_iff_eq] at hy
    rcases hy with hy | hy
    · have := h2 _ (lookup_mem hy) rfl; cases this
    · have := h2 _ (lookup_mem hy) rfl; cases this
theorem cap_put2 {scope sc : Scope} {ρ : Vs} {x y : Str} {d e : D} (hx : ownIn scope x = true) (hy : ownIn scope y = true) : ∀ q ∈ cap scope sc ρ, q ∈ put (put (cap scope sc ρ) x d) y e := fun q hq => by
  obtain ⟨z, f⟩ := q
  exact put_tail (cap_ne hy hq) (put_tail (cap_ne hx hq) hq)
theorem chr_ne {a b : Nat} (h : a ≠ b) : ((⟨#[a]⟩ : Str) == ⟨#[b]⟩) = false := by
  rw [beq_eq_false_iff_ne]
  intro q
  have q3 : [a] = [b] := congrArg (fun z : Str => z.cps.toList) q
  injection q3 with q4 _
  exact h q4
theorem swapped_of {env : Env} {sc : Scope} {ts : List Expr} {v : Expr} {r : Option (List Str)} (hsc : env.scope = sc) (h : swappedStores ts v { env with scope := sc } = pure r) : swappedStores ts v env = pure r := by subst hsc; exact h
theorem swapsSole_of {env : Env} {sc : Scope} {ts : List Expr} {v : Expr} {l : Nat} {r : Bool} (hsc : env.scope = sc) (h : swapsWithSole ts v l { env with scope := sc } = pure r) : swapsWithSole ts v l env = pure r := by subst hsc; exact h
theorem sliceL_map {α β : Type} (f : α → β) (l : List α) (a b : Option Int) : (sliceL l a b).map f = sliceL (l.map f) a b := by
  unfold sliceL; rw [List.map_take, List.map_drop, List.length_map]
theorem getD_range {n k : Nat} {α : Type} {g : Nat → α} {d : α} (h : k < n) : ((List.range n).map g).getD k d = g k := by
  rw [List.getD_eq_getElem?_getD, List.getElem?_map, List.getElem?_range h]; rfl
theorem ints_getD {nums : List Int} {k : Nat} (h : k < nums.length) : (nums.map D.int)[(k : Int).toNat]? = some (.int (nums.getD k 0)) := by
  rw [Int.toNat_natCast, List.getElem?_map, List.getD_eq_getElem?_getD, List.getElem?_eq_getElem h]; rfl
theorem map_range_getD {α β : Type} (f : α → β) (d : α) (l : List α) : (List.range l.length).map (fun k => f (l.getD k d)) = l.map f := by
  apply List.ext_getElem
  · simp
  · intro i h1 h2
    simp at h1
    simp [List.getD_eq_getElem?_getD, h1]
theorem flatMap_len {α β : Type} (f : α → List β) (B : Nat) : ∀ l : List α, (∀ x ∈ l, (f x).length ≤ B) → (l.flatMap f).length ≤ l.length * B
  | [], _ => by simp
  | x :: l, h => by
    have := flatMap_len f B l fun y hy => h y (.tail _ hy)
    have := h x (.head _)
    rw [List.flatMap_cons, List.length_append, List.length_cons, Nat.succ_mul]
    omega
theorem cap_put3 {scope sc : Scope} {ρ : Vs} {x y : Str} {d e : D} (hy : ownIn scope y = true) (hxy : (x == y) = false) : ∀ q ∈ put (cap scope sc ρ) x d, q ∈ put (put (cap scope sc ρ) x d) y e := fun q hq => by
  obtain ⟨z, f⟩ := q
  refine put_tail ?_ hq
  rcases put_inv hq with e | ⟨h, _⟩
  · cases e; exact hxy
  · exact cap_ne hy h
theorem rangeD_get {n l : Nat} {g : Nat → D} (h : l < n) : ((List.range n).map g)[(l : Int).toNat]? = some (g l) := by
  rw [Int.toNat_natCast, List.getElem?_map, List.getElem?_range h]; rfl
theorem end_len {e : List Nat} (he : IsEnd e) : e.length ≤ 2 := by rcases he with rfl | rfl | rfl <;> decide
theorem rep_size (p a : Nat) (l : List Nat) : (⟨(List.replicate p a ++ l).toArray⟩ : Str).length = p + l.length := by
  show (List.replicate p a ++ l).toArray.size = _
  simp

section
variable {prog : Program} {w : World} {h₀ : Heap} {mg mb : Str → Option Value} {C : Cx} {ρ : Vs}
structure Bis (mb : Str → Option Value) : Prop where
  len : mb "len" = some (.builtin "len")
  tuple : mb "tuple" = some (.type "tuple")
  max : mb "max" = some (.builtin "max")
  min : mb "min" = some (.builtin "min")
  sum : mb "sum" = some (.builtin "sum")
  range : mb "range" = some (.type "range")
  chr : mb "chr" = some (.builtin "chr")
theorem for_count {target : Expr} {body : List Stmt} {o : Out} {ds : List D} (r : Nat → Vs) (d : D) (n : Nat) (h0 : ForD prog w h₀ C (r n) target body ds o) (hs : ∀ i l, i < n → ForD prog w h₀ C (r (i + 1)) target body l o → ForD prog w h₀ C (r i) target body (d :: l) o) : ForD prog w h₀ C (r 0) target body (List.replicate n d ++ ds) o := by
  have : ∀ j i, i + j = n → ForD prog w h₀ C (r i) target body (List.replicate j d ++ ds) o := by
    intro j
    induction j with
    | zero => intro i hi; rw [show i = n by omega]; exact h0
    | succ j ih => intro i hi; exact hs i _ (by omega) (ih (i + 1) (by omega))
  exact this n 0 (by omega)
theorem for_next {target : Expr} {body : List Stmt} {d : D} {ds : List D} {ρ' ρ'' : Vs} {o : Out} (ha : ∀ I, AsgD prog w h₀ (C.also I) ρ target d ρ') (hb : ∀ I, ExsD prog w h₀ (C.also I) ρ' body (.next ρ'')) (hk : ForD prog w h₀ C ρ'' target body ds o) : ForD prog w h₀ C ρ target body (d :: ds) o := for_head (o' := .next ρ'') ha hb hk
theorem ifs_one {c : Expr} {b : Bool} (h : TrD prog w h₀ C ρ c b) : IfsD prog w h₀ C ρ [c] b := h
theorem ifs_none : IfsD prog w h₀ C ρ [] true := rfl
theorem turn_if {target elt c : Expr} {d d' : D} {ρ' : Vs} {b : Bool} (ha : AsgD prog w h₀ C ρ target d ρ') (hs : ∀ q ∈ ρ, q ∈ ρ') (hi : TrD prog w h₀ C ρ' c b) (he : b = true → EvD prog w h₀ C ρ' elt d') : TurnD prog w h₀ C ρ target elt [c] d (if b then [d'] else []) :=
  ⟨ρ', b, ha, hs, hi, fun hb => ⟨d', he hb, by rw [hb]; rfl⟩, fun hb => by rw [hb]; rfl⟩
theorem turn_all {target elt : Expr} {d d' : D} {ρ' : Vs} (ha : AsgD prog w h₀ C ρ target d ρ') (hs : ∀ q ∈ ρ, q ∈ ρ') (he : EvD prog w h₀ C ρ' elt d') : TurnD prog w h₀ C ρ target elt [] d [d'] :=
  ⟨ρ', true, ha, hs, rfl, fun hb => ⟨d', he, rfl⟩, fun hb => nomatch hb⟩
theorem ev_eqint {x y : Expr} {pos : Pos} {a b : Nat} (hx : EvD prog w h₀ C ρ x (.int a)) (hy : EvD prog w h₀ C ρ y (.int b)) (hm : behindInMarks .Eq y = false := by with_unfolding_all rfl) : TrD prog w h₀ C ρ (.Compare x [.Eq] [y] pos) (decide (a = b)) :=
  (tr_cmp hx hy cmp_eq_int hm).eq (by
    by_cases h : a = b
    · subst h; simp
    · have : ¬ ((a : Int) = b) := by omega
      simp [h, this])
theorem WhD.less {t : Expr} {body : List Stmt} {ρ' ρ'' : Vs} (h : WhD prog w h₀ C ρ t body (.next ρ')) (hs : ∀ p ∈ ρ'', p ∈ ρ') : WhD prog w h₀ C ρ t body (.next ρ'') := fun s H =>
  codeAny_mono (h s H) fun r s' z => by
    cases r with
    | ok f => exact ⟨z.1, z.2.1, z.2.2.sub hs⟩
    | error e => exact z
theorem ex_asgT {e : Expr} {elts : List Expr} {k : Nat} {tp pos : Pos} {d : D} {ρ' : Vs} (h : EvD prog w h₀ C ρ e d) (ha : AsgD prog w h₀ C ρ (.Tuple elts k tp) d ρ')
    (hs : swapsWithSole [.Tuple elts k tp] e pos.line C.env = pure false := by rfl) (hw : swappedStores [.Tuple elts k tp] e C.env = pure none := by rfl) :
    ExD prog w h₀ C ρ (.Assign [.Tuple elts k tp] e pos) (.next ρ') := ex_assignT (target := e) h ha hs hw
end
end Mine

set_option Elab.async false
set_option linter.unusedVariables false
set_option linter.unusedSimpArgs false
namespace Mine
open PySem.Builtin PySem.Builtin.Str

/-! rows of dots -/
def rowL (d : Nat) : List Nat := List.replicate d 46 ++ [97]
def rowS (d : Nat) : Str := ⟨(rowL d).toArray⟩
def pageL (e : List Nat) (ds : List Nat) : List Nat := ds.flatMap fun d => rowL d ++ e
theorem rowL_plain (d : Nat) : ∀ k ∈ rowL d, k ≠ 10 ∧ k ≠ 13 := by
  intro k hk
  unfold rowL at hk
  simp only [List.mem_append, List.mem_replicate, List.mem_cons, List.not_mem_nil, or_false] at hk
  omega
theorem page_head (e : List Nat) : ∀ ds : List Nat, (∀ d ∈ ds, 1 ≤ d) → (pageL e ds).head? ≠ some 10
  | [], _ => by simp [pageL]
  | d :: ds, h => by
    obtain ⟨d, rfl⟩ : ∃ q, d = q + 1 := ⟨d - 1, by have := h d (.head _); omega⟩
    show (rowL (d + 1) ++ e ++ pageL e ds).head? ≠ _
    simp [rowL, List.replicate_succ]
theorem page_nl {e : List Nat} (he : IsEnd e) : ∀ ds : List Nat, (∀ d ∈ ds, 1 ≤ d) → nlL false (pageL e ds) = pageL [13, 10] ds
  | [], _ => rfl
  | d :: ds, h => by
    have ih := page_nl he ds fun x hx => h x (.tail _ hx)
    show nlL false (rowL d ++ e ++ pageL e ds) = rowL d ++ [13, 10] ++ pageL [13, 10] ds
    rw [List.append_assoc, nlL_plain _ _ (rowL_plain d), nlL_end he (page_head e ds fun x hx => h x (.tail _ hx)), ih]
    simp
theorem page_dot : ∀ ds : List Nat, (∀ d ∈ ds, 1 ≤ d) → dotL true (pageL [13, 10] ds) = pageL [13, 10] (ds.map (· + 1))
  | [], _ => rfl
  | d :: ds, h => by
    have ih := page_dot ds fun x hx => h x (.tail _ hx)
    obtain ⟨d, rfl⟩ : ∃ q, d = q + 1 := ⟨d - 1, by have := h d (.head _); omega⟩
    show dotL true (rowL (d + 1) ++ [13, 10] ++ pageL [13, 10] ds) = rowL (d + 1 + 1) ++ [13, 10] ++ pageL [13, 10] (ds.map (· + 1))
    have e : rowL (d + 1) ++ [13, 10] ++ pageL [13, 10] ds = 46 :: (rowL d ++ 13 :: 10 :: pageL [13, 10] ds) := by simp [rowL, List.replicate_succ]
    rw [e, dotL_line fun k hk => (rowL_plain d k hk).1, ih]
    simp [rowL, List.replicate_succ]
theorem quoted_page {e : List Nat} (he : IsEnd e) {ds : List Nat} (h : ∀ d ∈ ds, 1 ≤ d) : quoted ⟨(pageL e ds).toArray⟩ = ⟨(pageL [13, 10] (ds.map (· + 1))).toArray⟩ := by
  refine str_of ?_
  show (dotL true (nlL false (pageL e ds))).toArray.toList = _
  rw [page_nl he ds h, page_dot ds h]

/-! the rows of a page -/
theorem two_iff : ∀ (l : List Nat) (k : Nat), ((l.drop k).take 2 = [13, 10]) ↔ (l[k]? = some 13 ∧ l[k + 1]? = some 10)
  | [], k => by simp
  | a :: l, 0 => by
    cases l with
    | nil => simp
    | cons b l => simp
  | a :: l, k + 1 => by
    simp only [List.drop_succ_cons, List.getElem?_cons_succ]
    exact two_iff l k
theorem at_iff (x : Str) (k : Nat) : StrLaws.At x ⟨#[13, 10]⟩ x.length k ↔ x.cps.toList[k]? = some 13 ∧ x.cps.toList[k + 1]? = some 10 := by
  unfold StrLaws.At
  rw [StrLaws.subAt_eq, beq_iff_eq]
  show (k + 2 ≤ x.length ∧ (x.cps.toList.drop k).take 2 = [13, 10]) ↔ _
  rw [two_iff]
  constructor
  · exact fun h => h.2
  · intro h
    refine ⟨?_, h⟩
    have := (List.getElem?_eq_some_iff.mp h.2).1
    show k + 2 ≤ x.cps.size
    rw [← Array.length_toList]; omega
theorem rowS_len (d : Nat) : (rowL d).length = d + 1 := by simp [rowL]
theorem page_parts (x : Str) : ∀ (ds : List Nat) (a : Nat) (cuts : List Nat) (f : Nat), x.cps.toList.drop a = pageL [13, 10] ds → StrLaws.ChainG x ⟨#[13, 10]⟩ x.length a cuts f → (∀ k, f ≤ k → ¬ StrLaws.At x ⟨#[13, 10]⟩ x.length k) →
    StrLaws.partsFrom x 2 a cuts = ds.map rowS ++ [⟨#[]⟩]
  | [], a, cuts, f, hT, hc, hf => by
    have hno : ∀ k, a ≤ k → ¬ StrLaws.At x ⟨#[13, 10]⟩ x.length k := fun k hk h => by
      have h := ((at_iff x k).mp h).1
      have : (x.cps.toList.drop a)[k - a]? = some 13 := by rw [List.getElem?_drop, show a + (k - a) = k by omega]; exact h
      rw [hT] at this
      simp [pageL] at this
    cases cuts with
    | nil =>
      show [strSub x a x.length] = [⟨#[]⟩]
      refine congrArg (fun z => [z]) (str_ext ?_)
      rw [StrLaws.strSub_toList, hT]; simp [pageL]
    | cons c r => exact absurd hc.2.1 (hno c hc.1)
  | d :: ds, a, cuts, f, hT, hc, hf => by
    have hT : x.cps.toList.drop a = rowL d ++ ([13, 10] ++ pageL [13, 10] ds) := by rw [hT]; show rowL d ++ [13, 10] ++ _ = _; rw [List.append_assoc]; rfl
    have hget : ∀ i, x.cps.toList[a + i]? = (rowL d ++ ([13, 10] ++ pageL [13, 10] ds))[i]? := fun i => by rw [← hT, List.getElem?_drop]
    have hat : StrLaws.At x ⟨#[13, 10]⟩ x.length (a + (d + 1)) := by
      rw [at_iff]
      have e1 := hget (d + 1)
      have e2 := hget (d + 2)
      rw [List.getElem?_append_right (by rw [rowS_len]; omega), rowS_len] at e1 e2
      have f1 : d + 1 - (d + 1) = 0 := by omega
      have f2 : d + 2 - (d + 1) = 1 := by omega
      rw [f1] at e1; rw [f2] at e2
      exact ⟨e1, e2⟩
    have hlow : ∀ c, a ≤ c → StrLaws.At x ⟨#[13, 10]⟩ x.length c → a + (d + 1) ≤ c := fun c hc h => by
      have h := ((at_iff x c).mp h).1
      rcases Nat.lt_or_ge c (a + (d + 1)) with q | q
      · have e1 := hget (c - a)
        rw [show a + (c - a) = c by omega, h, List.getElem?_append_left (by rw [rowS_len]; omega)] at e1
        exact absurd rfl (rowL_plain d 13 (List.mem_of_getElem? e1.symm)).2
      · exact q
    cases cuts with
    | nil =>
      have e : f = a := hc
      exact absurd hat (hf _ (by omega))
    | cons c r =>
      obtain ⟨h1, h2, h3, h4⟩ := hc
      have l1 := hlow c h1 h2
      have l2 : c ≤ a + (d + 1) := by
        rcases Nat.lt_or_ge (a + (d + 1)) c with q | q
        · exact absurd hat (h3 _ (by omega) q)
        · exact q
      have e : c = a + (d + 1) := by omega
      subst e
      show strSub x a (a + (d + 1)) :: StrLaws.partsFrom x 2 (a + (d + 1) + 2) r = rowS d :: (ds.map rowS ++ [⟨#[]⟩])
      have hd : x.cps.toList.drop (a + (d + 1) + 2) = pageL [13, 10] ds := by
        rw [show a + (d + 1) + 2 = a + (d + 3) by omega, ← List.drop_drop, hT, List.drop_append, rowS_len, show d + 3 - (d + 1) = 2 by omega, List.drop_of_length_le (by rw [rowS_len]; omega)]
        rfl
      rw [page_parts x ds (a + (d + 1) + 2) r f hd h4 hf]
      congr 1
      refine str_ext ?_
      rw [StrLaws.strSub_toList, hT, show a + (d + 1) - a = (rowL d).length by rw [rowS_len]; omega, List.take_left]
      rfl
theorem kind_page (ds : List Nat) : Builtin.Str.strKind ⟨(pageL [13, 10] ds).toArray⟩ = 1 := by
  unfold Builtin.Str.strKind
  rw [if_pos]
  rw [Array.all_eq_true']
  intro k hk
  simp only [List.mem_toArray] at hk
  unfold pageL at hk
  obtain ⟨d, _, hk⟩ := List.mem_flatMap.mp hk
  unfold rowL at hk
  simp only [List.mem_append, List.mem_replicate, List.mem_cons, List.not_mem_nil, or_false] at hk
  exact decide_eq_true (by omega)
theorem split_page (ds : List Nat) : Txt.split ⟨(pageL [13, 10] ds).toArray⟩ ⟨#[13, 10]⟩ = ds.map rowS ++ [⟨#[]⟩] := by
  cases ds with
  | nil => rfl
  | cons d ds =>
    obtain ⟨f, h1, h2⟩ := StrLaws.occ_tight ⟨(pageL [13, 10] (d :: ds)).toArray⟩ ⟨#[13, 10]⟩ (by decide)
    have hp := page_parts ⟨(pageL [13, 10] (d :: ds)).toArray⟩ (d :: ds) 0 _ f rfl h1 h2
    unfold Txt.split
    rw [if_neg, if_neg]
    · rw [StrLaws.partsBetween_eq]; exact hp
    · intro q
      have q := List.isEmpty_iff.mp q
      rw [q] at hp
      have := congrArg List.length hp
      simp [StrLaws.partsFrom] at this
    · rw [kind_page]
      have e : Builtin.Str.strKind ⟨#[13, 10]⟩ = 1 := by decide +kernel
      rw [e]
      have : ¬ (⟨(pageL [13, 10] (d :: ds)).toArray⟩ : Str).length < (⟨#[13, 10]⟩ : Str).length := by
        show ¬ (pageL [13, 10] (d :: ds)).toArray.size < 2
        simp [pageL, rowL]; omega
      simp [this]
end Mine

set_option Elab.async false
set_option linter.unusedVariables false
set_option linter.unusedSimpArgs false
set_option maxRecDepth 100000
namespace Mine
open PySem.Builtin PySem.Builtin.Str

theorem strs_all {X : Addr → Prop} {h : Heap} : ∀ {vs : List Value} {ts : List Str}, IsAll X h vs (ts.map D.str) → ∃ l : List (Str × Tok), vs = strValues l ∧ l.map (·.1) = ts
  | [], [], _ => ⟨[], rfl, rfl⟩
  | v :: vs, t :: ts, .cons i r => by
    obtain ⟨k, rfl⟩ := i.str_inv
    obtain ⟨l, rfl, e⟩ := strs_all r
    exact ⟨(t, k) :: l, rfl, by rw [List.map_cons, e]⟩
theorem isAll_strsFrom {X : Addr → Prop} {h : Heap} : ∀ (ts : List Str) (k : Nat), IsAll X h (strsFrom k ts) (ts.map D.str)
  | [], _ => .nil
  | t :: ts, k => .cons (.str _ _) (isAll_strsFrom ts (k + 1))

section
variable {prog : Program} {w : World} {h₀ : Heap} {mg mb : Str → Option Value} {C : Cx} {ρ : Vs}

theorem bi_join {sep : Str} {ts : List Str} (hok : JoinOk sep ts = true) : BiD prog w h₀ C ρ (.builtin "str.join") [.str sep, .list (ts.map D.str)] (.str (Txt.join sep ts)) := fun s vs H i => by
  obtain ⟨v, u, rfl, i1, i2⟩ := i.two
  obtain ⟨t, rfl⟩ := i1.str_inv
  obtain ⟨a, vs, n, rfl, ha, ho, hs⟩ := i2.list_inv
  obtain ⟨l, rfl, e⟩ := strs_all hs
  exact up (SC.join (isList_of ho) e hok fun t' k => ⟨keeps0_toks s _, .str _ _⟩)
theorem bi_split {x y : Str} (hy : (y.length == 0) = false) (hsz : x.length ≤ sizeLine) (hsz2 : (partsBetween x (occurrences x y 0 x.length (x.length + 1)) y.length).length ≤ sizeLine) :
    BiD prog w h₀ C ρ (.builtin "str.split") [.str x, .str y] (.list ((Txt.split x y).map D.str)) := fun s vs H i => by
  obtain ⟨v, u, rfl, i1, i2⟩ := i.two
  obtain ⟨t, rfl⟩ := i1.str_inv; obtain ⟨u, rfl⟩ := i2.str_inv
  have self : Keeps s { s with heap := s.heap.push { cls := .type "list", data := .seq #[.str x t] } } ∧ Is C.X (s.heap.push { cls := .type "list", data := .seq #[.str x t] }) (.ref s.heap.objs.size) (.list ([x].map D.str)) :=
    ⟨keeps_push s _, .list (n := 0) (vs := [.str x t]) H.fresh (Heap.get?_push_size _ rfl) (.cons (.str _ _) .nil)⟩
  cases h1 : (decide (x.length < y.length) || decide (Builtin.Str.strKind x < Builtin.Str.strKind y))
  · cases hf : (occurrences x y 0 x.length (x.length + 1)).isEmpty
    · have e : Txt.split x y = partsBetween x (occurrences x y 0 x.length (x.length + 1)) y.length := by unfold Txt.split; rw [h1, hf]; rfl
      rw [e]
      refine call_meets F.slot_str_split (typeIs_str _ _ _) F.entry_str_split (F.args_str_split_2 _ _) (meets_str_split_sep x y t u h1 hy hf hsz hsz2) ?_
      exact ⟨⟨_, _, rfl, Nat.le_add_right _ _, fun b o e => Heap.get?_push_of_some _ e⟩, .list (n := 0) H.fresh (Heap.get?_push_size _ rfl) (isAll_strsFrom _ _)⟩
    · have e : Txt.split x y = [x] := by unfold Txt.split; rw [h1, hf]; rfl
      rw [e]
      exact call_meets F.slot_str_split (typeIs_str _ _ _) F.entry_str_split (F.args_str_split_2 _ _) (meets_str_split_not_found x y t u h1 hy hf) self
  · have e : Txt.split x y = [x] := by unfold Txt.split; rw [h1]; rfl
    rw [e]
    exact call_meets F.slot_str_split (typeIs_str _ _ _) F.entry_str_split (F.args_str_split_2 _ _) (meets_str_split_cannot_occur x y t u h1) self

theorem toPys_ints : ∀ ns : List Int, D.toPys (ns.map D.int) = ns.map PyData.int
  | [] => rfl
  | n :: ns => by rw [List.map_cons, D.toPys, toPys_ints ns]; rfl
theorem any_ints (a : Int) : ∀ ns : List Int, (ns.map PyData.int).any (fun y => PyData.eqv y (.int a)) = decide (a ∈ ns)
  | [] => rfl
  | n :: ns => by
    rw [List.map_cons, List.any_cons, any_ints a ns]
    by_cases h : n = a
    · subst h; simp [PyData.eqv]
    · have : ¬ a = n := fun e => h e.symm
      simp [PyData.eqv, h, this]
theorem cmp_notin {n : Nat} (R : Room C.A n) {a : Int} {ns : List Int} : CmpD prog w h₀ C ρ .NotIn (.int a) (.list (ns.map D.int)) (!decide (a ∈ ns)) := fun va vb s H ia ib => by
  have okl : (D.list (ns.map D.int)).okd 1 = true := okd_list fun d hd => by
    obtain ⟨i, _, rfl⟩ := List.mem_map.mp hd
    exact okd_int _ _
  have e1 := okl
  unfold D.okd at e1
  simp only [Bool.and_eq_true, decide_eq_true_eq] at e1
  obtain ⟨as, rb⟩ := ib.reads e1.1.1
  obtain ⟨bs, ra⟩ := ia.reads rfl
  have hc := e1.1.2
  rw [D.toPy] at rb hc
  rw [toPys_ints] at rb hc
  refine SeqAt.notIn_list_reads rb ra hc rfl ?_ ⟨keeps_refl s, ?_⟩
  · have := R.units
    have : min (PyData.depthAll (ns.map PyData.int)) (PyData.depth (D.toPy (.int a))) = 0 := by rw [D.toPy, PyData.depth]; exact Nat.min_zero _
    rw [this]; omega
  · rw [show (D.int a).toPy = .int a from rfl, any_ints]; exact .bool _
theorem tr_not {x : Expr} {pos : Pos} {b : Bool} (h : TrD prog w h₀ C ρ x b) : TrD prog w h₀ C ρ (.UnaryOp .Not x pos) (!b) := fun s H =>
  wpAny_isTrue_Not (h.then H fun s₁ k₁ H₁ => ⟨k₁, rfl⟩)
theorem ev_and2 {x y : Expr} {pos : Pos} {a b : Bool} (hx : EvD prog w h₀ C ρ x (.bool a)) (hy : a = true → EvD prog w h₀ C ρ y (.bool b))
    (he : ∀ env, eval (.BoolOp .And [x, y] pos) env = boolOp pos .And [eval x env, eval y env] := by intro _; rfl) : EvD prog w h₀ C ρ (.BoolOp .And [x, y] pos) (.bool (a && b)) := fun s H => by
  rw [he]
  show wpAny _ _ (do
    let v ← eval x C.env
    standAt pos
    let t ← holding [v] (truthy v)
    match BoolOp.And, t with
    | .And, false | .Or, true => pure v
    | _, _ => boolOp pos .And [eval y C.env]) _ _ _
  refine wpAny_bind (hx.then H fun v s₁ k₁ H₁ i₁ => wpAny_bind (wpAny_standAt (wpAny_bind (wpAny_holding ?_))))
  cases i₁.bool_inv
  refine wpAny_truthy_bool ?_
  cases a with
  | false => exact wpAny_pure ⟨k₁, .bool _⟩
  | true => exact (hy rfl).then H₁ fun v s₂ k₂ H₂ i₂ => ⟨keeps_trans k₁ k₂, i₂⟩
end
end Mine

set_option Elab.async false
set_option linter.unusedVariables false
set_option linter.unusedSimpArgs false
set_option maxRecDepth 100000
namespace Mine

/-! a list that a name owns -/
structure OwnAt (h₀ : Heap) (C : Cx) (L : Addr) (x : Str) (ρ : Vs) (ds : List D) (s : Shared) : Prop where
  good : Good h₀ C
  nx : ¬ C.X L
  n0 : h₀.get? L = none
  sat : Sat h₀ (C.also L) ((x, .raw (.ref L)) :: ρ) s
  fil : Fills (C.also L) L ds s.heap
def Rel (C : Cx) (L L' : Addr) (s s' : Shared) : Prop := KeepsW (fun a => C.W a ∨ a = L) s s' ∧ (L' = L ∨ s.heap.get? L' = none) ∧ ¬ C.W L'
theorem Rel.refl {C : Cx} {L : Addr} (s : Shared) (h : ¬ C.W L) : Rel C L L s s := ⟨keepsW_refl _ s, .inl rfl, h⟩
theorem Rel.trans {C : Cx} {L L' L'' : Addr} {s s' s'' : Shared} (a : Rel C L L' s s') (b : Rel C L' L'' s' s'') : Rel C L L'' s s'' := by
  obtain ⟨k1, f1, w1⟩ := a
  obtain ⟨k2, f2, w2⟩ := b
  obtain ⟨h1, t1, e1, l1, kk1⟩ := k1
  obtain ⟨h2, t2, e2, l2, kk2⟩ := k2
  subst e1
  subst e2
  refine ⟨⟨h2, t2, rfl, Nat.le_trans l1 l2, fun b o nb e => kk2 b o ?_ (kk1 b o nb e)⟩, ?_, w2⟩
  · rintro (q | q)
    · exact nb (.inl q)
    · rcases f1 with f1 | f1
      · exact nb (.inr (q.trans f1))
      · rw [q, f1] at e; cases e
  · rcases f2 with f2 | f2
    · rcases f1 with f1 | f1
      · exact .inl (f2.trans f1)
      · exact .inr (by rw [f2]; exact f1)
    · by_cases q : L'' = L
      · exact .inl q
      · refine .inr ?_
        cases e : s.heap.get? L'' with
        | none => rfl
        | some o =>
          have := kk1 L'' o (fun z => z.elim w2 q) e
          rw [show h1.get? L'' = none from f2] at this; cases this
theorem Rel.keeps {C : Cx} {L L' : Addr} {s s' s'' : Shared} (h : Rel C L L' s s') (k : KeepsW C.W s' s'') : Rel C L L' s s'' :=
  ⟨keepsW_trans h.1 (keepsW_mono (fun a q => .inl q) k), h.2.1, h.2.2⟩

/-- fewer reserved addresses -/
theorem Sat.lessX {h₀ : Heap} {A : Around} {env : Env} {X Y W : Addr → Prop} {ρ : Vs} {s : Shared} (H : Sat h₀ ⟨A, env, X, W⟩ ρ s) (G : Good h₀ ⟨A, env, Y, W⟩) (hs : ∀ a, Y a → X a) : Sat h₀ ⟨A, env, Y, W⟩ ρ s :=
  ⟨G, H.gens, H.toks, H.top, fun a xa => H.alloc a (hs a xa), H.loc, H.cells, fun p hp => let ⟨v, i, hv⟩ := H.vars p hp; ⟨v, i.less hs, hv⟩⟩
theorem IsAll.lessX {X Y : Addr → Prop} {h : Heap} {vs : List Value} {ds : List D} (i : IsAll X h vs ds) (hs : ∀ a, Y a → X a) : IsAll Y h vs ds := i.less hs

section
variable {prog : Program} {w : World} {h₀ : Heap} {mg mb : Str → Option Value} {C : Cx} {ρ : Vs} {x : Str} {ds : List D}

theorem OwnAt.wL {L : Addr} {s : Shared} (H : OwnAt h₀ C L x ρ ds s) : ¬ C.W L := fun q => H.nx (H.good.sub _ q)
/-- the list as plain data -/
theorem OwnAt.plain {L : Addr} {s : Shared} (H : OwnAt h₀ C L x ρ ds s) : Sat h₀ C ((x, .list ds) :: ρ) s := by
  have S := H.sat.also' H.good
  obtain ⟨vs, n, e, i⟩ := H.fil
  refine ⟨S.good, S.gens, S.toks, S.top, S.alloc, S.loc, S.cells, fun p hp => ?_⟩
  rcases List.mem_cons.mp hp with rfl | hp
  · obtain ⟨v, i', hv⟩ := S.vars (x, .raw (.ref L)) (.head _)
    cases i'
    exact ⟨.ref L, .list H.nx e (i.less fun a q => .inl q), hv⟩
  · exact S.vars p (.tail _ hp)
theorem OwnAt.keep {L : Addr} {s s' : Shared} {ρ' : Vs} (H : OwnAt h₀ C L x ρ ds s) (k : KeepsW C.W s s') (S : Sat h₀ (C.also L) ((x, .raw (.ref L)) :: ρ') s') : OwnAt h₀ C L x ρ' ds s' :=
  ⟨H.good, H.nx, H.n0, S, H.fil.keepsW k H.wL fun a q => .inl (H.good.sub a q)⟩
theorem OwnAt.keeps {L : Addr} {s s' : Shared} (H : OwnAt h₀ C L x ρ ds s) (k : Keeps s s') : OwnAt h₀ C L x ρ ds s' := H.keep (keepsW_of k) (H.sat.keeps k)
theorem OwnAt.sub {L : Addr} {s : Shared} {ρ' : Vs} (H : OwnAt h₀ C L x ρ ds s) (hs : ∀ p ∈ ρ', p ∈ (x, .raw (.ref L)) :: ρ) : OwnAt h₀ C L x ρ' ds s :=
  ⟨H.good, H.nx, H.n0, H.sat.sub (fun p hp => by exact (List.mem_cons.mp hp).elim (fun e => e ▸ .head _) (hs p)), H.fil⟩

/-- statements, from a state where x owns a list, to such a state -/
def OwnD (prog : Program) (w : World) (h₀ : Heap) (C : Cx) (x : Str) (ρ : Vs) (ds : List D) (sts : List Stmt) (ρ' : Vs) (ds' : List D) : Prop :=
  ∀ L s, OwnAt h₀ C L x ρ ds s → wpAny (model prog w) C.A (execs sts C.env) (fun f s' => f = .next ∧ ∃ L', OwnAt h₀ C L' x ρ' ds' s' ∧ Rel C L L' s s') no s
def Own1 (prog : Program) (w : World) (h₀ : Heap) (C : Cx) (x : Str) (ρ : Vs) (ds : List D) (st : Stmt) (ρ' : Vs) (ds' : List D) : Prop :=
  ∀ L s, OwnAt h₀ C L x ρ ds s → wpAny (model prog w) C.A (exec st C.env) (fun f s' => f = .next ∧ ∃ L', OwnAt h₀ C L' x ρ' ds' s' ∧ Rel C L L' s s') no s
variable {ρ' ρ'' : Vs} {ds' ds'' : List D}
theorem own_nil : OwnD prog w h₀ C x ρ ds [] ρ ds := fun L s H => wpAny_execs_nil ⟨rfl, L, H, .refl s H.wL⟩
theorem own_cons {st : Stmt} {rest : List Stmt} (h : Own1 prog w h₀ C x ρ ds st ρ' ds') (hr : OwnD prog w h₀ C x ρ' ds' rest ρ'' ds'') : OwnD prog w h₀ C x ρ ds (st :: rest) ρ'' ds'' := fun L s H => by
  refine wpAny_execs_cons (wpAny_mono (h L s H) (fun f s₁ z => ?_) fun _ _ z => z)
  obtain ⟨rfl, L₁, H₁, r₁⟩ := z
  refine wpAny_mono (hr L₁ s₁ H₁) (fun f s₂ z => ?_) fun _ _ z => z
  obtain ⟨rfl, L₂, H₂, r₂⟩ := z
  exact ⟨rfl, L₂, H₂, r₁.trans r₂⟩
theorem OwnD.sub {sts : List Stmt} (h : OwnD prog w h₀ C x ρ' ds sts ρ'' ds') (hs : ∀ p ∈ ρ', p ∈ ρ) : OwnD prog w h₀ C x ρ ds sts ρ'' ds' := fun L s H => h L s (H.sub fun p hp => .tail _ (hs p hp))
theorem OwnD.less {sts : List Stmt} (h : OwnD prog w h₀ C x ρ ds sts ρ' ds') (hs : ∀ p ∈ ρ'', p ∈ ρ') : OwnD prog w h₀ C x ρ ds sts ρ'' ds' := fun L s H =>
  wpAny_mono (h L s H) (fun f s' z => ⟨z.1, z.2.choose, (z.2.choose_spec.1).sub fun p hp => .tail _ (hs p hp), z.2.choose_spec.2⟩) fun _ _ z => z
/-- a statement that leaves the list alone -/
theorem own_ex {st : Stmt} (h : ∀ L, ∃ ρA, ExD prog w h₀ (C.also L) ((x, .raw (.ref L)) :: ρ) st (.next ρA) ∧ ∀ p ∈ (x, .raw (.ref L)) :: ρ', p ∈ ρA) : Own1 prog w h₀ C x ρ ds st ρ' ds := fun L s H => by
  obtain ⟨ρA, h1, h2⟩ := h L
  refine wpAny_mono (h1 s H.sat) (fun f s' z => ?_) fun _ _ z => z
  obtain ⟨k, rfl, S⟩ := z
  exact ⟨rfl, L, H.keep k (S.sub h2), (Rel.refl s H.wL).keeps k⟩
theorem own_if {t : Expr} {body orelse : List Stmt} {pos : Pos} {c : Bool} (ht : ∀ L, TrD prog w h₀ (C.also L) ((x, .raw (.ref L)) :: ρ) t c) (ha : c = true → OwnD prog w h₀ C x ρ ds body ρ' ds') (hb : c = false → OwnD prog w h₀ C x ρ ds orelse ρ' ds') : Own1 prog w h₀ C x ρ ds (.If t body orelse pos) ρ' ds' := fun L s H => by
  refine wpAny_If ((ht L).then (C := C.also L) H.sat fun s₁ k₁ _ => ?_)
  have r1 : Rel C L L s s₁ := (Rel.refl s H.wL).keeps (keepsW_of k₁)
  cases c with
  | true => exact wpAny_mono (ha rfl L s₁ (H.keeps k₁)) (fun f s₂ z => by obtain ⟨a, L', b, r⟩ := z; exact ⟨a, L', b, r1.trans r⟩) fun _ _ z => z
  | false => exact wpAny_mono (hb rfl L s₁ (H.keeps k₁)) (fun f s₂ z => by obtain ⟨a, L', b, r⟩ := z; exact ⟨a, L', b, r1.trans r⟩) fun _ _ z => z
/-- x.append(e) -/
theorem own_app {e : Expr} {p1 p2 p3 pos : Pos} {d : D} (he : ∀ L, EvD prog w h₀ (C.also L) ((x, .raw (.ref L)) :: ρ) e d) (hsz : ds.length ≤ 1000)
    (hd : (x == ("__debug__" : Str)) = false := by decide +kernel) (hn : (x == ("__classdict__" : Str)) = false := by decide +kernel)
    (hbase : ∀ env, attributeBase (.Name x p1) (Str.ofString "append") env (eval (.Name x p1) env) = eval (.Name x p1) env := by intro _; rfl) (hline : (p2.endLine == p3.line) = true := by rfl)
    (hst : ∀ env, starEach [e] env = [(false, eval e env)] := by intro _; rfl)
    (hi : interactive C.env = false := by rfl) (hs : swapsWith (.Call (.Attribute (.Name x p1) "append" p2) [e] [] p3) none pos.line C.env = pure false := by rfl) :
    Own1 prog w h₀ C x ρ ds (.Expr (.Call (.Attribute (.Name x p1) "append" p2) [e] [] p3) pos) ρ (ds ++ [d]) := fun L s H => by
  refine wpAny_Expr ?_ hi hs
  refine wpAny_Call_method (T := "list") (id := "list.append") (hbase _) (by rw [hst]; rfl) hline F.plainAttrs_list F.slot_list_append F.type_list_append ?_
  have hname : EvV prog w h₀ (C.also L) ((x, .raw (.ref L)) :: ρ) (.Name x p1) (.ref L) := ev_rawName (ev_name (.head _) hd hn)
  refine hname.then (C := C.also L) H.sat fun s₁ k₁ S₁ => ?_
  have H₁ := H.keeps k₁
  obtain ⟨vs, n, ho, hall⟩ := H₁.fil
  refine ⟨⟨_, ho, rfl⟩, fun a q => ?_, ?_⟩
  · cases q; exact ⟨_, ho, rfl⟩
  refine Calls.callWith_builtin (by rw [hst]; rfl) ?_
  rw [hst]
  refine Calls.evalArgs_plain (Calls.spliced_cons ((he L).then (C := C.also L) S₁ fun v s₂ k₂ S₂ i₂ => Calls.spliced_nil ?_))
  have H₂ := H₁.keeps k₂
  obtain ⟨vs, n, ho, hall⟩ := H₂.fil
  refine wpAny_list_append_plain ⟨n, ho⟩ (fun h' hp hs' => ?_) (by rw [List.size_toArray, hall.length, sizeLine_eq]; omega)
  obtain ⟨n', e'⟩ := hp
  have kw : KeepsW (· = L) s₂ { s₂ with heap := h' } := ⟨h', _, rfl, Nat.le_refl _, fun b o nb eb => (hs'.2 b nb).trans eb⟩
  have e'' : h'.get? L = some (listObj (vs ++ [v]) n') := by rw [e']; simp [listObj]
  refine ⟨rfl, L, ⟨H.good, H.nx, H.n0, S₂.other ho (fun _ _ q => by cases q) (fun _ q => by cases q) (.inr rfl) H.n0 kw ⟨_, e'⟩, vs ++ [v], n', e'', ?_⟩, ?_, .inl rfl, H.wL⟩
  · exact (hall.keepsW kw fun a q => .inr q).append (.cons (i₂.keepsW kw fun a q => .inr q) .nil)
  · exact keepsW_trans (keepsW_of (keeps_trans k₁ k₂)) (keepsW_mono (fun a q => .inr q) kw)

/-! while -/
def OwhD (prog : Program) (w : World) (h₀ : Heap) (C : Cx) (x : Str) (ρ : Vs) (ds : List D) (t : Expr) (body : List Stmt) (ρ' : Vs) (ds' : List D) : Prop :=
  ∀ L s, OwnAt h₀ C L x ρ ds s → codeAny (model prog w) C.A (.whileLoop t body [] C.env) (fun r s' => r = .ok .next ∧ ∃ L', OwnAt h₀ C L' x ρ' ds' s' ∧ Rel C L L' s s') s
theorem own_while {t : Expr} {body : List Stmt} {pos : Pos} (h : OwhD prog w h₀ C x ρ ds t body ρ' ds') : Own1 prog w h₀ C x ρ ds (.While t body [] pos) ρ' ds' := fun L s H =>
  wpAny_While (codeAny_mono (h L s H) fun r s' z => by obtain ⟨rfl, z⟩ := z; exact ⟨rfl, z⟩)
theorem owh_done {t : Expr} {body : List Stmt} (ht : ∀ L, TrD prog w h₀ (C.also L) ((x, .raw (.ref L)) :: ρ) t false) : OwhD prog w h₀ C x ρ ds t body ρ ds := fun L s H => by
  refine codeAny_of_tree ?_
  show wpAny _ C.A ((whileTurn t body [] C.env).onRaise (fun x => do noteFrame x C.env; theTreesLotGoes x)) _ _ s
  refine wpAny_noted ?_
  simp only [whileTurn]
  refine wpAny_bind ((ht L).then (C := C.also L) H.sat fun s₁ k₁ _ => ?_)
  simp only [Bool.false_eq_true, if_false]
  exact wpAny_bind (wpAny_execs_nil (wpAny_pure ⟨rfl, L, H.keeps k₁, (Rel.refl s H.wL).keeps (keepsW_of k₁)⟩))
theorem owh_turn {t : Expr} {body : List Stmt} (ht : ∀ L, TrD prog w h₀ (C.also L) ((x, .raw (.ref L)) :: ρ) t true) (hb : OwnD prog w h₀ C x ρ ds body ρ' ds') (hr : OwhD prog w h₀ C x ρ' ds' t body ρ'' ds'') : OwhD prog w h₀ C x ρ ds t body ρ'' ds'' := fun L s H => by
  refine codeAny_of_tree ?_
  show wpAny _ C.A ((whileTurn t body [] C.env).onRaise (fun x => do noteFrame x C.env; theTreesLotGoes x)) _ _ s
  refine wpAny_noted ?_
  simp only [whileTurn]
  refine wpAny_bind ((ht L).then (C := C.also L) H.sat fun s₁ k₁ _ => ?_)
  simp only [if_true]
  have r1 : Rel C L L s s₁ := (Rel.refl s H.wL).keeps (keepsW_of k₁)
  refine wpAny_bind (wpAny_mono (hb L s₁ (H.keeps k₁)) (fun f s₂ z => ?_) fun _ _ z => z.elim)
  obtain ⟨rfl, L₂, H₂, r₂⟩ := z
  refine wpAny_pure ⟨rfl, codeAny_mono (hr L₂ s₂ H₂) fun r s' y => ?_⟩
  obtain ⟨rfl, L₃, H₃, r₃⟩ := y
  exact ⟨rfl, L₃, H₃, (r1.trans r₂).trans r₃⟩
theorem OwhD.sub {t : Expr} {body : List Stmt} (h : OwhD prog w h₀ C x ρ' ds t body ρ'' ds') (hs : ∀ p ∈ ρ', p ∈ ρ) : OwhD prog w h₀ C x ρ ds t body ρ'' ds' := fun L s H => h L s (H.sub fun p hp => .tail _ (hs p hp))
theorem OwhD.less {t : Expr} {body : List Stmt} (h : OwhD prog w h₀ C x ρ ds t body ρ' ds') (hs : ∀ p ∈ ρ'', p ∈ ρ') : OwhD prog w h₀ C x ρ ds t body ρ'' ds' := fun L s H =>
  codeAny_mono (h L s H) fun r s' z => ⟨z.1, z.2.choose, (z.2.choose_spec.1).sub fun p hp => .tail _ (hs p hp), z.2.choose_spec.2⟩
end
end Mine

set_option Elab.async false
set_option linter.unusedVariables false
set_option linter.unusedSimpArgs false
set_option maxRecDepth 100000
namespace Mine

/-! iterators that lean on nothing -/
structure ItF (prog : Program) (w : World) (A : Around) (I : Addr) (ds : List D) (h : Heap) : Prop where
  ex : ∃ (fp wr : List Addr) (n : Nat) (P : Nat → Value → Prop) (St : Nat → Heap → Prop) (i : Nat), Walks prog w A I fp wr n P St ∧ St i h ∧ (∀ b ∈ wr, b = I) ∧ (∀ b ∈ fp, b = I) ∧
    n = i + ds.length ∧ (∀ j d v, ds[j]? = some d → P (i + j) v → ∀ X h, Is X h v d) ∧ ∀ i h, St i h → ∃ o n, h.get? I = some o ∧ o.cls = .type n ∧ ownsTuples.contains n = false ∧ ∃ fs, o.data = .fields fs
inductive IterF : D → List D → Prop
  | range {lo hi : Int} (n : Nat) (hs : Builtin.Range.small lo hi 1 = true) (hn : Builtin.Range.rangeSize lo hi 1 = n) : IterF (.range lo hi) (intsFrom lo n)
  | str (x : Str) : IterF (.str x) (x.cps.toList.map fun c => .str ⟨#[c]⟩)

section
variable {prog : Program} {w : World} {h₀ : Heap} {mg mb : Str → Option Value} {C : Cx} {ρ : Vs} {x : Str} {ds : List D}

theorem ItF.at {A : Around} {I : Addr} {ds : List D} {h : Heap} (q : ItF prog w A I ds h) (X : Addr → Prop) : ItAt prog w A X I ds h := by
  obtain ⟨fp, wr, n, P, St, i, W, st, hw, hf, hn, hP, hc⟩ := q.ex
  exact ⟨fp, wr, n, P, St, i, W, st, hw, fun b hb => .inl (hf b hb), hn, fun j d v e p => hP j d v e p X h, hc⟩
theorem ItF.keep {A : Around} {I : Addr} {ds : List D} {h h' : Heap} (q : ItF prog w A I ds h) (k : ∀ o, h.get? I = some o → h'.get? I = some o) : ItF prog w A I ds h' := by
  obtain ⟨fp, wr, n, P, St, i, W, st, hw, hf, hn, hP, hc⟩ := q.ex
  exact ⟨fp, wr, n, P, St, i, W, W.frame i h h' st (fun b hb o e => by rw [hf b hb] at e ⊢; exact k o e), hw, hf, hn, hP, hc⟩
theorem ItF.next {A : Around} {I : Addr} {ds : List D} {s : Shared} (q : ItF prog w A I ds s.heap) :
    wpAny (model prog w) A (pyNext (.ref I)) (fun r s' => KeepsW (· = I) s s' ∧ match ds with
      | [] => r = none
      | d :: ds' => ∃ v, r = some v ∧ (∀ X h, Is X h v d) ∧ ItF prog w A I ds' s'.heap) no s := by
  obtain ⟨fp, wr, n, P, St, i, W, st, hw, hf, hn, hP, hc⟩ := q.ex
  refine wpAny_with_toks (n := s.toks) (Nat.le_refl _) ?_
  cases ds with
  | nil =>
    have : n = i := by simpa using hn
    subst this
    exact W.done s _ _ st fun h' tk hk l => ⟨⟨h', tk, rfl, l, fun b o nb e => hk b o (fun z => nb (hw b z)) e⟩, rfl⟩
  | cons d ds =>
    refine W.item i s _ _ (by simp at hn; omega) st fun v h' tk hv st' hk l => ?_
    refine ⟨⟨h', tk, rfl, l, fun b o nb e => hk b o (fun z => nb (hw b z)) e⟩, v, rfl, hP 0 d v rfl hv, ⟨fp, wr, n, P, St, i + 1, W, st', hw, hf, ?_, fun j d' v' e p => ?_, hc⟩⟩
    · simp at hn; omega
    · refine hP (j + 1) d' v' (by simpa using e) ?_
      rw [show i + (j + 1) = i + 1 + j by omega]; exact p
theorem iter_F {A : Around} (hh : A.handled = none) {X : Addr → Prop} {s : Shared} {v : Value} {d : D} {ds : List D} (hd : IterF d ds) (i : Is X s.heap v d) :
    wpAny (model prog w) A (pyIter v) (fun it s' => it = .ref s.heap.objs.size ∧ (∃ o, o.isFreed = false ∧ s' = { s with heap := s.heap.push o }) ∧ ∀ A' : Around, A'.handled = none → ItF prog w A' s.heap.objs.size ds s'.heap) no s := by
  cases hd with
  | @range lo hi n hs hn =>
    cases i with
    | range ha ho =>
      refine wpAny_pyIter_range ho hs ⟨rfl, ⟨_, rfl, rfl⟩, fun A' hA => ⟨_, _, n, _, _, 0, Walks.range hA _ lo 1 n, ?_, by simp, by simp, by simp [intsFrom_length], ?_, ?_⟩⟩
      · simp only [Int.natCast_zero, Int.zero_mul, Int.add_zero, Int.sub_zero]
        rw [← hn]
        exact Heap.get?_push_size _ rfl
      · rintro j d v e ⟨t, rfl⟩ X h
        rw [intsFrom_get _ _ _ _ e]
        simp only [Nat.zero_add, Int.mul_one]
        exact .int _ _
      · intro i h st
        exact ⟨_, _, st, rfl, by decide, _, rfl⟩
  | str x =>
    obtain ⟨t, rfl⟩ := i.str_inv
    cases ha : x.cps.all (· < 128)
    · refine wpAny_pyIter_wide ha ⟨rfl, ⟨_, rfl, rfl⟩, fun A' hA => ⟨_, _, _, _, _, 0, Walks.strWide hA _ x t, ⟨_, Heap.get?_push_size _ rfl, rfl, rfl⟩, by simp, by simp, by simp, ?_, ?_⟩⟩
      · rintro j d v e ⟨c, u, hc, rfl⟩ X h
        simp only [Nat.zero_add] at hc
        rw [List.getElem?_map, Array.getElem?_toList, hc] at e
        cases e; exact .str _ _
      · rintro i h ⟨o, ho, hc, hd⟩
        exact ⟨o, _, ho, hc, by decide, _, hd⟩
    · refine wpAny_pyIter_ascii ha ⟨rfl, ⟨_, rfl, rfl⟩, fun A' hA => ⟨_, _, _, _, _, 0, Walks.strAscii hA _ x t, ⟨_, Heap.get?_push_size _ rfl, rfl, rfl⟩, by simp, by simp, by simp, ?_, ?_⟩⟩
      · rintro j d v e ⟨c, u, hc, rfl⟩ X h
        simp only [Nat.zero_add] at hc
        rw [List.getElem?_map, Array.getElem?_toList, hc] at e
        cases e; exact .str _ _
      · rintro i h ⟨o, ho, hc, hd⟩
        exact ⟨o, _, ho, hc, by decide, _, hd⟩
theorem iterF_upto (n : Nat) (h : n ≤ 2 ^ 60) : IterF (.range 0 n) ((List.range n).map fun (k : Nat) => D.int k) := by
  have hs : Builtin.Range.rangeSize 0 n 1 = n := by rw [rangeSize_one]; split <;> omega
  have : IterF (.range 0 n) (intsFrom 0 n) := by
    refine .range n ?_ hs
    unfold Builtin.Range.small
    rw [hs]
    simp [Builtin.Range.rangeFitsLong]
    omega
  rwa [show intsFrom 0 n = _ from intsFrom_map 0 n, ← List.range_eq_range'] at this

/-! for -/
def Cx.wr (C : Cx) (I : Addr) : Cx := { C with W := fun a => C.W a ∨ a = I }
def OforD (prog : Program) (w : World) (h₀ : Heap) (C : Cx) (x : Str) (ρ : Vs) (ds : List D) (target : Expr) (body : List Stmt) (items : List D) (ρ' : Vs) (ds' : List D) : Prop :=
  ∀ I L s, Good h₀ C → OwnAt h₀ (C.also I) L x ρ ds s → h₀.get? I = none → ¬ C.X I → ItF prog w C.A I items s.heap →
    codeAny (model prog w) C.A (.forLoop target (.ref I) body [] C.env) (fun r s' => r = .ok .next ∧ ∃ L', OwnAt h₀ C L' x ρ' ds' s' ∧ Rel (C.wr I) L L' s s') s
variable {ρ' ρ'' : Vs} {ds' ds'' : List D}
theorem Sat.swap {I L : Addr} {s : Shared} (G : Good h₀ C) (H : Sat h₀ ((C.also I).also L) ρ s) : Sat h₀ ((C.also L).also I) ρ s :=
  Sat.lessX H ((G.also L).also I) fun a q => q.elim (fun q => q.elim (fun q => .inl (.inl q)) .inr) (fun q => .inl (.inr q))
theorem IsAll.swap {I L : Addr} {h : Heap} {vs : List Value} {ds : List D} (i : IsAll ((C.also I).also L).X h vs ds) : IsAll ((C.also L).also I).X h vs ds :=
  i.less fun a q => q.elim (fun q => q.elim (fun q => .inl (.inl q)) .inr) (fun q => .inl (.inr q))
/-- the iterator moves on -/
theorem OwnAt.iter {I L : Addr} {s s' : Shared} {o : Obj} (H : OwnAt h₀ (C.also I) L x ρ ds s) (n0 : h₀.get? I = none) (ho : s.heap.get? I = some o) (hd : ∃ fs, o.data = .fields fs) (k : KeepsW (· = I) s s') (hb : ∃ o', s'.heap.get? I = some o') : OwnAt h₀ (C.also I) L x ρ ds s' := by
  obtain ⟨fs, hd⟩ := hd
  have hLI : ¬ L = I := fun q => H.nx (.inr q)
  exact ⟨H.good, H.nx, H.n0, H.sat.other ho (by rw [hd]; intro _ _ q; cases q) (by rw [hd]; intro _ q; cases q) (.inl (.inr rfl)) n0 k hb, H.fil.keepsW k hLI fun a q => .inl (.inr q)⟩
/-- the iterator is done with -/
theorem OwnAt.iterOut {I L : Addr} {s s' : Shared} {o : Obj} (G : Good h₀ C) (H : OwnAt h₀ (C.also I) L x ρ ds s) (n0 : h₀.get? I = none) (nX : ¬ C.X I) (ho : s.heap.get? I = some o) (hd : ∃ fs, o.data = .fields fs) (k : KeepsW (· = I) s s') : OwnAt h₀ C L x ρ ds s' := by
  obtain ⟨fs, hd⟩ := hd
  have hLI : ¬ L = I := fun q => H.nx (.inr q)
  have F := H.fil.keepsW k hLI fun a q => .inl (.inr q)
  refine ⟨G, fun q => H.nx (.inl q), H.n0, (Sat.swap G H.sat).alsoOut (G.also L) (fun q => q.elim nX fun q => hLI q.symm) ho (by rw [hd]; intro _ _ q; cases q) (by rw [hd]; intro _ q; cases q) n0 k, ?_⟩
  obtain ⟨vs, n, e, i⟩ := F
  exact ⟨vs, n, e, i.less fun a q => q.elim (fun q => .inl (.inl q)) .inr⟩
theorem ofor_nil {target : Expr} {body : List Stmt} : OforD prog w h₀ C x ρ ds target body [] ρ ds := fun I L s G H n0 nX T => by
  refine codeAny_of_tree ?_
  show wpAny _ C.A ((forTurn target (.ref I) body [] C.env).onRaise (fun x => do noteFrame x C.env; theTreesLotGoes x)) _ _ s
  refine wpAny_noted ?_
  simp only [forTurn]
  refine wpAny_bind (wpAny_standAt (wpAny_bind (wpAny_onRaise (wpAny_mono T.next (fun r s₁ z => ?_) fun _ _ z => z.elim))))
  obtain ⟨k₁, rfl⟩ := z
  obtain ⟨o, fs, ho, hd⟩ := (T.at fun _ => False).obj
  have hLI : L ≠ I := fun q => H.nx (.inr q)
  have H₁ := H.iterOut G n0 nX ho ⟨fs, hd⟩ k₁
  exact wpAny_pure ⟨rfl, codeAny_block (wpAny_execs_nil ⟨rfl, L, H₁, keepsW_mono (fun a q => .inl (.inr q)) k₁, .inl rfl, fun q => q.elim H₁.wL hLI⟩)⟩
theorem ofor_cons {y : Str} {py : Pos} {body : List Stmt} {d : D} {items : List D} {ρ1 ρ2 : Vs} {ds1 : List D} (hy : ∀ I L, Stores ((C.also I).also L) y) (hs : ∀ L, ∀ p ∈ (x, .raw (.ref L)) :: ρ1, p ∈ put ((x, .raw (.ref L)) :: ρ) y d)
    (hb : ∀ I, OwnD prog w h₀ (C.also I) x ρ1 ds body ρ2 ds1) (hk : OforD prog w h₀ C x ρ2 ds1 (.Name y py) body items ρ' ds') : OforD prog w h₀ C x ρ ds (.Name y py) body (d :: items) ρ' ds' := fun I L s G H n0 nX T => by
  refine codeAny_of_tree ?_
  show wpAny _ C.A ((forTurn (.Name y py) (.ref I) body [] C.env).onRaise (fun x => do noteFrame x C.env; theTreesLotGoes x)) _ _ s
  refine wpAny_noted ?_
  simp only [forTurn]
  refine wpAny_bind (wpAny_standAt (wpAny_bind (wpAny_onRaise (wpAny_mono T.next (fun r s₁ z => ?_) fun _ _ z => z.elim))))
  obtain ⟨k₁, v, rfl, i₁, T₁⟩ := z
  obtain ⟨o, fs, ho, hd⟩ := (T.at fun _ => False).obj
  obtain ⟨o₁, fs₁, ho₁, hd₁⟩ := (T₁.at fun _ => False).obj
  have hLI : L ≠ I := fun q => H.nx (.inr q)
  have H₁ := H.iter n0 ho ⟨fs, hd⟩ k₁ ⟨_, ho₁⟩
  have r1 : Rel (C.wr I) L L s s₁ := ⟨keepsW_mono (fun a q => .inl (.inr q)) k₁, .inl rfl, fun q => q.elim H₁.wL hLI⟩
  refine wpAny_bind ((T₁.at fun _ => False).owned _ v ?_)
  refine wpAny_bind (wpAny_mono (asg_name (C := (C.also I).also L) (hy I L) v s₁ H₁.sat (i₁ _ _)) (fun _ s₂ z => ?_) fun _ _ z => z.elim)
  obtain ⟨k₂, S₂⟩ := z
  have H₂ := H₁.keep k₂ (S₂.sub (hs L))
  have r2 : Rel (C.wr I) L L s s₂ := ⟨keepsW_trans r1.1 (keepsW_mono (fun a q => .inl (.inl q)) k₂), .inl rfl, r1.2.2⟩
  refine wpAny_bind (wpAny_mono (hb I L s₂ H₂) (fun f s₃ z => ?_) fun _ _ z => z.elim)
  obtain ⟨rfl, L₃, H₃, r₃⟩ := z
  have hLI3 : L₃ ≠ I := fun q => H₃.nx (.inr q)
  have r3 : Rel (C.wr I) L L₃ s s₃ := r2.trans ⟨keepsW_mono (fun a q => q.elim (fun q => .inl (.inl q)) .inr) r₃.1, r₃.2.1, fun q => q.elim H₃.wL hLI3⟩
  have nW : ¬ C.W I := fun q => nX (G.sub I q)
  have T₃ : ItF prog w C.A I items s₃.heap := T₁.keep fun o e => keepsW_get r₃.1 (fun q => q.elim nW fun q => hLI q.symm) (keepsW_get k₂ nW e)
  refine wpAny_pure ⟨rfl, codeAny_mono (hk I L₃ s₃ G H₃ n0 nX T₃) fun r s' y => ?_⟩
  obtain ⟨rfl, L₄, H₄, r₄⟩ := y
  exact ⟨rfl, L₄, H₄, r3.trans r₄⟩
theorem own_for {y : Str} {py pos : Pos} {iter : Expr} {body : List Stmt} {src : D} {items : List D} (hs : ∀ L, EvD prog w h₀ (C.also L) ((x, .raw (.ref L)) :: ρ) iter src) (hi : IterF src items) (h : OforD prog w h₀ C x ρ ds (.Name y py) body items ρ' ds')
    (hfold : ∀ env x, foldedSetIterable iter env x = pure x := by intro _ _; rfl) : Own1 prog w h₀ C x ρ ds (.For (.Name y py) iter body [] pos) ρ' ds' := fun L s H => by
  refine wpAny_For ((hs L).then (C := C.also L) H.sat fun v s₁ k₁ S₁ i₁ => ?_) (hfold _)
  have H₁ := H.keeps k₁
  refine wpAny_mono (iter_F (prog := prog) (w := w) H.good.hh hi i₁) (fun it s₂ z => ?_) fun _ _ z => z.elim
  obtain ⟨rfl, ⟨ob, hof, rfl⟩, T⟩ := z
  have T := T C.A H.good.hh
  generalize hI : s₁.heap.objs.size = I at T ⊢
  have nI : s₁.heap.get? I = none := hI ▸ get_none_of_le (Nat.le_refl _)
  have nX : ¬ C.X I := fun q => by
    obtain ⟨o, e⟩ := S₁.alloc I (.inl q)
    rw [nI] at e; cases e
  have hLI : L ≠ I := fun q => by
    obtain ⟨o, e⟩ := S₁.alloc L (.inr rfl)
    rw [q, nI] at e; cases e
  have n0 : h₀.get? I = none := hI ▸ S₁.old0 (Nat.le_refl _)
  have H₂ : OwnAt h₀ (C.also I) L x ρ ds { s₁ with heap := s₁.heap.push ob } := by
    have S₂ := S₁.also ob hof
    rw [hI] at S₂
    refine ⟨H.good.also I, fun q => q.elim H.nx hLI, H.n0, Sat.swap H.good S₂, ?_⟩
    obtain ⟨vs, n, e, i⟩ := H₁.fil
    refine ⟨vs, n, Heap.get?_push_of_some _ e, (i.more (Y := ((C.also I).also L).X) fun a q => ?_).mono fun b o nb e => ⟨nb, Heap.get?_push_of_some _ e⟩⟩
    rcases q with (q | q) | q
    · exact .inl (.inl q)
    · exact .inr (q ▸ nI)
    · exact .inl (.inr q)
  refine codeAny_mono (h I L _ H.good H₂ n0 nX T) fun r s' z => ?_
  obtain ⟨rfl, L', H', r'⟩ := z
  refine ⟨rfl, L', H', ?_⟩
  obtain ⟨⟨h1, t1, e1, l1, kk1⟩, f1, w1⟩ := r'
  obtain ⟨h0', t0, e0, l0, kk0⟩ := k₁
  subst e0
  subst e1
  refine ⟨⟨h1, t1, rfl, Nat.le_trans l0 l1, fun b o nb e => kk1 b o ?_ (Heap.get?_push_of_some _ (kk0 b o e))⟩, ?_, fun q => w1 (.inl q)⟩
  · rintro ((q | q) | q)
    · exact nb (.inl q)
    · have e2 := kk0 b o e
      rw [q, show h0'.get? I = none from nI] at e2; cases e2
    · exact nb (.inr q)
  · rcases f1 with f1 | f1
    · exact .inl f1
    · refine .inr ?_
      cases e : s.heap.get? L' with
      | none => rfl
      | some o =>
        have := Heap.get?_push_of_some ob (kk0 L' o e)
        rw [show (h0'.push ob).get? L' = none from f1] at this; cases this
end
end Mine

set_option Elab.async false
set_option linter.unusedVariables false
set_option linter.unusedSimpArgs false
set_option maxRecDepth 100000
namespace Mine

section
variable {prog : Program} {w : World} {h₀ : Heap} {mg mb : Str → Option Value} {C : Cx} {ρ : Vs} {x : Str} {ds : List D}

/-! a new list for a name -/
def EvsO (prog : Program) (w : World) (h₀ : Heap) (C : Cx) (ρ : Vs) (es : List Expr) (ds : Addr → List D) : Prop :=
  ∀ pos s, Sat h₀ C ρ s → wpAny (model prog w) C.A (spliced (backTo pos (starEach es C.env))) (fun vs s' => Keeps s s' ∧ ∃ L, s.heap.get? L = none ∧ ¬ C.X L ∧ h₀.get? L = none ∧ Sat h₀ (C.also L) ρ s' ∧ Fills (C.also L) L [] s'.heap ∧ IsAll (C.also L).X s'.heap vs (ds L)) no s
theorem evo_here {p : Pos} {rest : List Expr} (h : ∀ L, EvsD prog w h₀ (C.also L) ρ rest ds)
    (he : ∀ env, starEach (.List [] p :: rest) env = (false, eval (.List [] p) env) :: starEach rest env := by intro _; rfl) : EvsO prog w h₀ C ρ (.List [] p :: rest) (fun L => .raw (.ref L) :: ds) := fun pos s H =>
  wpAny_items_cons (wpAny_List (wpAny_items_nil ⟨by decide, by
    have S := H.also { cls := .type "list", data := .seq ([] : List Value).toArray } rfl
    have hn : s.heap.get? s.heap.objs.size = none := get_none_of_le (Nat.le_refl _)
    refine wpAny_mono (h _ pos _ S) (fun vs s' z => ?_) fun _ _ z => z
    obtain ⟨k, i⟩ := z
    exact ⟨keeps_trans (keeps_push s _) k, s.heap.objs.size, hn, H.fresh, H.old0 (Nat.le_refl _), S.keeps k, ⟨[], 0, keeps_get k (Heap.get?_push_size _ rfl), .nil⟩, .cons (.raw _) i⟩⟩)) (he _)
theorem evo_next {e : Expr} {rest : List Expr} {d : D} {f : Addr → List D} (h : EvD prog w h₀ C ρ e d) (hr : EvsO prog w h₀ C ρ rest f)
    (he : ∀ env, starEach (e :: rest) env = (false, eval e env) :: starEach rest env := by intro _; rfl) : EvsO prog w h₀ C ρ (e :: rest) (fun L => d :: f L) := fun pos s H =>
  wpAny_items_cons (h.then H fun v s₁ k₁ H₁ i₁ => wpAny_mono (hr pos s₁ H₁) (fun vs s₂ z => by
    obtain ⟨k₂, L, a1, a2, a3, a4, a5, a6⟩ := z
    refine ⟨keeps_trans k₁ k₂, L, ?_, a2, a3, a4, a5, .cons (i₁.mono fun b o nb eb => ⟨fun q => q.elim nb fun q => ?_, keeps_get k₂ eb⟩) a6⟩
    · cases e : s.heap.get? L with
      | none => rfl
      | some o => rw [keeps_get k₁ e] at a1; cases a1
    · rw [q, a1] at eb; cases eb) fun _ _ z => z) (he _)
theorem ev_tupO {es : List Expr} {k : Nat} {pos : Pos} {f : Addr → List D} (h : EvsO prog w h₀ C ρ es f) (hsz : ∀ L, (f L).length ≤ 100) {s : Shared} (H : Sat h₀ C ρ s) :
    wpAny (model prog w) C.A (eval (.Tuple es k pos) C.env) (fun v s' => Keeps s s' ∧ ∃ L, s.heap.get? L = none ∧ ¬ C.X L ∧ h₀.get? L = none ∧ Sat h₀ (C.also L) ρ s' ∧ Fills (C.also L) L [] s'.heap ∧ Is (C.also L).X s'.heap v (.tup (f L))) no s := by
  refine wpAny_Tuple (wpAny_mono (h _ s H) (fun vs s₁ z => ?_) fun _ _ z => z)
  obtain ⟨k, L, a1, a2, a3, a4, a5, a6⟩ := z
  have kp := keeps_push s₁ { cls := .type "tuple", data := .seq vs.toArray }
  refine ⟨by rw [a6.length, sizeLine_eq]; have := hsz L; omega, keeps_trans k kp, L, a1, a2, a3, a4.keeps kp, ?_, .tup a4.fresh (n := 0) (Heap.get?_push_size _ rfl) (a6.keeps kp)⟩
  obtain ⟨vs', n, e, i⟩ := a5
  exact ⟨vs', n, keeps_get kp e, i.keeps kp⟩

def OwnNew (prog : Program) (w : World) (h₀ : Heap) (C : Cx) (ρ : Vs) (st : Stmt) (x : Str) (ρ' : Vs) : Prop :=
  ∀ s, Sat h₀ C ρ s → wpAny (model prog w) C.A (exec st C.env) (fun f s' => f = .next ∧ KeepsW C.W s s' ∧ ∃ L, OwnAt h₀ C L x ρ' [] s' ∧ s.heap.get? L = none) no s
variable {ρ' ρ'' : Vs} {ds' : List D}
theorem exs_own {st st2 : Stmt} {rest : List Stmt} {o : Out} (hn : OwnNew prog w h₀ C ρ st x ρ') (hm : Own1 prog w h₀ C x ρ' [] st2 ρ'' ds') (hr : ExsD prog w h₀ C ((x, .list ds') :: ρ'') rest o) : ExsD prog w h₀ C ρ (st :: st2 :: rest) o := fun s H => by
  refine wpAny_execs_cons (wpAny_mono (hn s H) (fun f s₁ z => ?_) fun _ _ z => z)
  obtain ⟨rfl, k₁, L, H₁, nL⟩ := z
  refine wpAny_execs_cons (wpAny_mono (hm L s₁ H₁) (fun f s₂ z => ?_) fun _ _ z => z)
  obtain ⟨rfl, L', H₂, r⟩ := z
  refine wpAny_mono (hr s₂ H₂.plain) (fun f s₃ z => ⟨?_, z.2⟩) fun _ _ z => z
  obtain ⟨h1, t1, e1, l1, kk1⟩ := k₁
  obtain ⟨h2, t2, e2, l2, kk2⟩ := keepsW_trans r.1 (keepsW_mono (fun a q => .inl q) z.1)
  subst e1
  refine ⟨h2, t2, e2, Nat.le_trans l1 l2, fun b o nb e => kk2 b o ?_ (kk1 b o nb e)⟩
  rintro (q | q)
  · exact nb q
  · rw [q, nL] at e; cases e

theorem new_swap2 {elts es : List Expr} {k k2 : Nat} {tp p2 pos : Pos} {y : Str} {b : D} (h : EvsO prog w h₀ C ρ es (fun L => [.raw (.ref L), b])) (hx : ∀ L, Stores (C.also L) x) (hy : ∀ L, Stores (C.also L) y)
    (hsub : ∀ L, ∀ p ∈ (x, .raw (.ref L)) :: ρ', p ∈ put (put ρ y b) x (.raw (.ref L)))
    (hs : swapsWithSole [.Tuple elts k tp] (.Tuple es k2 p2) pos.line C.env = pure false) (hw : swappedStores [.Tuple elts k tp] (.Tuple es k2 p2) C.env = pure (some [x, y])) :
    OwnNew prog w h₀ C ρ (.Assign [.Tuple elts k tp] (.Tuple es k2 p2) pos) x ρ' := fun s H => by
  refine Assign_Tuple_swapped (names := [x, y]) (wpAny_mono (ev_tupO h (fun L => by simp) H) (fun v s₁ z => ?_) fun _ _ z => z.elim) hs hw
  obtain ⟨k₁, L, a1, a2, a3, S₁, F₁, i₁⟩ := z
  obtain ⟨ad, vs, n, rfl, hX, ho, hs⟩ := i₁.tup_inv
  obtain ⟨v, u, rfl, iv, iu⟩ := hs.two
  refine wpAny_unpackItems_tuple (items := #[v, u]) H.good.hh (isTuple_of ho) fun h' he => ?_
  have k0 : Keeps s₁ { s₁ with heap := h' } := keeps_heap fun b o e => he b o (Nat.ne_of_lt (Heap.lt_size e)) e
  show wpAny _ _ (do holding [v] (bindName C.env y u); holding [] (bindName C.env x v); pure ()) _ _ _
  refine wpAny_bind (wpAny_holding (wpAny_bindName (wpAny_mono (store_name (C := C.also L) (hy L) (S₁.keeps k0) (iu.keeps k0)) (fun _ s₂ h₂ => ?_) fun _ _ z => z)))
  refine wpAny_bind (wpAny_holding (wpAny_bindName (wpAny_mono (store_name (C := C.also L) (hx L) h₂.2 ((iv.keeps k0).keepsW h₂.1 fun a q => .inl (H.good.sub a q))) (fun _ s₃ h₃ => ?_) fun _ _ z => z)))
  have kw : KeepsW C.W s₁ s₃ := keepsW_trans (keepsW_of k0) (keepsW_trans h₂.1 h₃.1)
  exact wpAny_pure ⟨rfl, keepsW_trans (keepsW_of k₁) kw, L, ⟨H.good, a2, a3, h₃.2.sub (hsub L), F₁.keepsW kw (fun q => a2 (H.good.sub _ q)) fun a q => .inl (H.good.sub a q)⟩, a1⟩
end
end Mine

set_option Elab.async false
set_option linter.unusedVariables false
set_option linter.unusedSimpArgs false
set_option maxRecDepth 100000
namespace Mine
open PySem.Challenge

local macro_rules | `(tactic| walk_at "m mem") => `(tactic| first
  | with_reducible exact put_head
  | with_reducible exact List.mem_cons_self
  | (with_reducible apply put_tail (h := by decide +kernel); walk_at "m mem")
  | (with_reducible refine List.mem_cons_of_mem _ ?_; walk_at "m mem")
  | (with_reducible refine cap_mem (by kernel_rfl) ?_; walk_at "m mem"))
local macro_rules | `(tactic| walk_at "m sub") => `(tactic| first
  | with_reducible exact allIn_nil
  | (with_reducible refine allIn_cons (by walk_at "m mem") ?_; walk_at "m sub"))

def natsD (P : List Nat) : List D := P.map fun (p : Nat) => .int p
theorem natsD_get {P : List Nat} {l : Nat} (h : l < P.length) : (natsD P)[(l : Int).toNat]? = some (.int (P.getD l 0 : Nat)) := by
  unfold natsD
  rw [Int.toNat_natCast, List.getElem?_map, List.getD_eq_getElem?_getD, List.getElem?_eq_getElem h]; rfl

theorem interactive_of {env : Env} {sc : Scope} (hsc : env.scope = sc) (h : interactive { env with scope := sc } = false) : interactive env = false := by subst hsc; exact h

/-! first come, first served, by counting -/
def lineIn (h : Int) : Nat → Int × List Int → Int × List Int
  | 0, st => st
  | n + 1, st => lineIn h n (max h (st.1 + 1), st.2 ++ [max h (st.1 + 1) - h])
def lineOut (cm : List Nat) : List Nat → Int × List Int → Int × List Int
  | [], st => st
  | h :: r, st => lineOut cm r (lineIn h (cm.getD h 0) st)
theorem lineIn_len (h : Int) : ∀ (n : Nat) (st : Int × List Int), (lineIn h n st).2.length = st.2.length + n
  | 0, st => rfl
  | n + 1, st => by rw [lineIn, lineIn_len h n]; simp; omega

section
variable {prog : Program} {w : World} {h₀ : Heap} {mg mb : Str → Option Value} {C : Cx} {ρ : Vs}

theorem line_fn (KX : (KK w).In h₀) (lim : h₀.NoLimit) (G : h₀.Ns mainGlobals mg) (B : h₀.Ns builtinsNs mb) (bi : Bis mb) (cm : List Nat) (hl : cm.length = 4) (hc : ∀ k, cm.getD k 0 ≤ 2) :
    FnD prog w h₀ 166 1 [.list (natsD cm)] (.list ((lineOut cm [0, 1, 2, 3] (-1, [])).2.map D.int)) := by
  have m1 : mg "range" = none := mg_none_of KX G (by kernel_rfl)
  have m2 : mg "max" = none := mg_none_of KX G (by kernel_rfl)
  refine fn_K ["comers"] KX lim (by kernel_rfl) rfl ?_ ?_
  · intro fd e vs hl
    match vs, hl with
    | [u], _ => cases e; rfl
  · intro C I
    show ExsD _ _ _ _ [("comers", .list (natsD cm))] _ _
    conv => arg 6; whnf
    refine exs_own (x := "waits") (ρ' := [("gone", .int (-1)), ("comers", .list (natsD cm))]) (ρ'' := []) (ds' := (lineOut cm [0, 1, 2, 3] (-1, [])).2.map D.int)
      (new_swap2 (y := "gone") (evo_here fun L => evs_cons (ev_neg ev_int) evs_nil) (fun L => (I.also L).sto _ (by kernel_rfl)) (fun L => (I.also L).sto _ (by kernel_rfl)) (fun L => by walk_at "m sub") (swapsSole_of I.scp (by with_unfolding_all rfl)) (swapped_of I.scp (by with_unfolding_all rfl)))
      (own_for (items := [0, 1, 2, 3].map fun (k : Nat) => D.int k) (fun L => ev_callT (ev_bi G m1 B bi.range (I.also L).scp (by kernel_rfl)) (evs_cons ev_int evs_nil) bi_range1) (iterF_upto 4 (by decide)) ?_) (exs_ret (ex_ret (ev_name (by walk_at "m mem"))))
    suffices go : ∀ (hs : List Nat) (st : Int × List Int), (∀ h ∈ hs, h < 4) → st.2.length + 2 * hs.length ≤ 100 → OforD prog w h₀ C "waits" [("gone", .int st.1), ("comers", .list (natsD cm))] (st.2.map D.int) _ _ (hs.map fun (k : Nat) => D.int k) [] ((lineOut cm hs st).2.map D.int) from go [0, 1, 2, 3] (-1, []) (by decide) (by decide)
    intro hs
    induction hs with
    | nil => 
      intro st _ _ I L s G H n0 nX T
      exact codeAny_mono (ofor_nil I L s G H n0 nX T) fun r s' z => ⟨z.1, z.2.choose, (z.2.choose_spec.1).sub (by walk_at "m sub"), z.2.choose_spec.2⟩
    | cons h hs ih =>
      intro st hh hlen
      have h4 := hh h (.head _)
      have hlen' : (lineIn h (cm.getD h 0) st).2.length + 2 * hs.length ≤ 100 := by
        rw [lineIn_len]; have := hc h; rw [List.length_cons] at hlen; omega
      refine ofor_cons (ρ1 := [("hour", .int h), ("gone", .int st.1), ("comers", .list (natsD cm))]) (fun J L => ((I.also J).also L).sto _ (by kernel_rfl)) (fun L => by walk_at "m sub") (fun J => ?_) (ih (lineIn h (cm.getD h 0) st) (fun k hk => hh k (.tail _ hk)) hlen')
      refine own_cons (own_for (items := (List.range (cm.getD h 0)).map fun (k : Nat) => D.int k) (fun L => ev_callT (ev_bi G m1 B bi.range ((I.also J).also L).scp (by kernel_rfl)) (evs_cons (ev_item_list (ev_name (by walk_at "m mem")) (ev_name (by walk_at "m mem")) (by omega) (by omega) (natsD_get (by omega))) evs_nil) bi_range1) (iterF_upto _ (by have := hc h; omega)) ?_) own_nil
      have hc' := hc h
      have hlen2 : st.2.length + cm.getD h 0 ≤ 100 := by rw [List.length_cons] at hlen; omega
      suffices key : ∀ (items : List Nat) (m : Nat) (st : Int × List Int), items.length = m → st.2.length + m ≤ 100 → OforD prog w h₀ (C.also J) "waits" [("hour", .int h), ("gone", .int st.1), ("comers", .list (natsD cm))] (st.2.map D.int) _ _ (items.map fun (k : Nat) => D.int k) [("gone", .int (lineIn h m st).1), ("comers", .list (natsD cm))] ((lineIn h m st).2.map D.int) from key _ (cm.getD h 0) st List.length_range hlen2
      intro items
      induction items with
      | nil =>
        intro m st hm _ I L s G H n0 nX T
        subst hm
        exact codeAny_mono (ofor_nil I L s G H n0 nX T) fun r s' z => ⟨z.1, z.2.choose, (z.2.choose_spec.1).sub (by change ∀ q ∈ ([("gone", D.int st.1), ("comers", D.list (natsD cm))] : Vs), q ∈ (_ : Vs); walk_at "m sub"), z.2.choose_spec.2⟩
      | cons k items ih2 =>
        intro m st hm hlen
        obtain ⟨m, rfl⟩ : ∃ q, m = q + 1 := ⟨m - 1, by rw [List.length_cons] at hm; omega⟩
        refine ofor_cons (ρ1 := [("hour", .int h), ("gone", .int st.1), ("comers", .list (natsD cm))]) (fun J2 L => (((I.also J).also J2).also L).sto _ (by kernel_rfl)) (fun L => by walk_at "m sub") (fun J2 => ?_) (ih2 m (max (h : Int) (st.1 + 1), st.2 ++ [max (h : Int) (st.1 + 1) - h]) (by rw [List.length_cons] at hm; omega) (by rw [List.length_append]; simp only [List.length_cons, List.length_nil]; omega))
        refine own_cons (ρ' := [("hour", .int h), ("gone", .int (max (h : Int) (st.1 + 1))), ("comers", .list (natsD cm))]) (own_ex fun L => ⟨_, ex_assign (ev_callB (ev_bi G m2 B bi.max (((I.also J).also J2).also L).scp (by kernel_rfl)) (evs_cons (ev_name (by walk_at "m mem")) (evs_cons (ev_bin (ev_name (by walk_at "m mem")) ev_int bin_add_int) evs_nil)) bi_max2) ((((I.also J).also J2).also L).sto _ (by kernel_rfl)), by walk_at "m sub"⟩)
          (own_cons (ds' := (st.2 ++ [max (h : Int) (st.1 + 1) - h]).map D.int) ?_ own_nil)
        rw [List.map_append]
        exact own_app (fun L => ev_bin (ev_name (by walk_at "m mem")) (ev_name (by walk_at "m mem")) bin_sub_int) (by rw [List.length_map]; omega) (hi := interactive_of ((I.also J).also J2).scp (by with_unfolding_all rfl)) (hs := swaps_of ((I.also J).also J2).scp (by with_unfolding_all rfl))
end
end Mine

set_option Elab.async false
set_option linter.unusedVariables false
set_option linter.unusedSimpArgs false
set_option maxRecDepth 100000
namespace Mine
open PySem.Challenge

local macro_rules | `(tactic| walk_at "m mem") => `(tactic| first
  | with_reducible exact put_head
  | with_reducible exact List.mem_cons_self
  | (with_reducible apply put_tail (h := by decide +kernel); walk_at "m mem")
  | (with_reducible refine List.mem_cons_of_mem _ ?_; walk_at "m mem")
  | (with_reducible refine cap_mem (by kernel_rfl) ?_; walk_at "m mem"))
local macro_rules | `(tactic| walk_at "m sub") => `(tactic| first
  | with_reducible exact allIn_nil
  | (with_reducible refine allIn_cons (by walk_at "m mem") ?_; walk_at "m sub"))

theorem IsAll.three {X : Addr → Prop} {h : Heap} {vs : List Value} {a b c : D} (q : IsAll X h vs [a, b, c]) : ∃ v u t, vs = [v, u, t] ∧ Is X h v a ∧ Is X h u b ∧ Is X h t c := by
  cases q with
  | cons x r => cases r with
    | cons y r => cases r with
      | cons z r => cases r; exact ⟨_, _, _, rfl, x, y, z⟩
theorem sliceL_one {α : Type} (l : List α) (h : Nat) : sliceL l (some (h : Int)) (some ((h : Int) + 1)) = (l.drop h).take 1 := by
  unfold sliceL
  rw [show (h : Int) + 1 = ((h + 1 : Nat) : Int) by omega]
  simp only [Option.elim, clip_nat]
  rcases Nat.lt_or_ge h l.length with q | q
  · rw [Nat.min_eq_left (by omega), Nat.min_eq_left (by omega)]
    congr 1; omega
  · rw [Nat.min_eq_right q, Nat.min_eq_right (by omega), List.drop_of_length_le (Nat.le_refl _), List.drop_of_length_le q]; simp
theorem sum_one (cm : List Nat) (h : Nat) : (((cm.drop h).take 1).map fun (n : Nat) => (n : Int)).sum = (cm.getD h 0 : Nat) := by
  rw [List.getD_eq_getElem?_getD]
  rcases Nat.lt_or_ge h cm.length with q | q
  · rw [List.drop_eq_getElem_cons q, List.getElem?_eq_getElem q]
    show ((cm[h] : Nat) : Int) + 0 = ((cm[h] : Nat) : Int)
    omega
  · rw [List.drop_of_length_le q, List.getElem?_eq_none q]; simp
theorem natsD_int (P : List Nat) : natsD P = (P.map fun (n : Nat) => (n : Int)).map D.int := by unfold natsD; rw [List.map_map]; rfl
theorem sliceL_last {α : Type} (l : List α) : sliceL l none (some (-1)) = l.dropLast := by
  unfold sliceL
  have : clipAt l.length (-1) = l.length - 1 := by unfold clipAt; rw [if_pos (by omega)]; omega
  show (l.drop 0).take (clipAt l.length (-1) - 0) = _
  rw [this, List.drop_zero, Nat.sub_zero, List.dropLast_eq_take]
theorem rep_flat {α : Type} (a : α) : ∀ n : Nat, (List.replicate n [a]).flatten = List.replicate n a
  | 0 => rfl
  | n + 1 => by rw [List.replicate_succ, List.flatten_cons, rep_flat a n, List.replicate_succ]; rfl
theorem nats_okd (l : List Nat) : (D.list (natsD l)).okd 1 = true := okd_list fun d hd => by
  obtain ⟨i, _, rfl⟩ := List.mem_map.mp hd
  exact okd_int _ _
theorem nil_okd1 : (D.list []).okd 1 = true := by decide +kernel
theorem natsD_empty (l : List Nat) : (natsD l).isEmpty = l.isEmpty := by cases l <;> rfl

/-! last come, first served -/
def pileF (cm : List Nat) : Nat → Nat → List Nat → List Int → Option (List Int)
  | 0, _, _, _ => none
  | f + 1, h, p, ws => if (decide (h < 4) || !p.isEmpty) = true then
      (match (p ++ List.replicate (cm.getD h 0) h).getLast? with
        | none => pileF cm f (h + 1) (p ++ List.replicate (cm.getD h 0) h) ws
        | some y => pileF cm f (h + 1) (p ++ List.replicate (cm.getD h 0) h).dropLast (ws ++ [(h : Int) - y]))
    else some ws

section
variable {prog : Program} {w : World} {h₀ : Heap} {mg mb : Str → Option Value} {C : Cx} {ρ ρ' : Vs} {x : Str}

theorem new_swap3 {elts es : List Expr} {k k2 : Nat} {tp p2 pos : Pos} {a c : Str} {d e : D} (h : EvsO prog w h₀ C ρ es (fun L => [d, .raw (.ref L), e])) (ha : ∀ L, Stores (C.also L) a) (hx : ∀ L, Stores (C.also L) x) (hc : ∀ L, Stores (C.also L) c)
    (hsub : ∀ L, ∀ p ∈ (x, .raw (.ref L)) :: ρ', p ∈ put (put (put ρ c e) x (.raw (.ref L))) a d)
    (hs : swapsWithSole [.Tuple elts k tp] (.Tuple es k2 p2) pos.line C.env = pure false) (hw : swappedStores [.Tuple elts k tp] (.Tuple es k2 p2) C.env = pure (some [a, x, c])) :
    OwnNew prog w h₀ C ρ (.Assign [.Tuple elts k tp] (.Tuple es k2 p2) pos) x ρ' := fun s H => by
  refine Assign_Tuple_swapped (names := [a, x, c]) (wpAny_mono (ev_tupO h (fun L => by simp) H) (fun v s₁ z => ?_) fun _ _ z => z.elim) hs hw
  obtain ⟨k₁, L, a1, a2, a3, S₁, F₁, i₁⟩ := z
  obtain ⟨ad, vs, n, rfl, hX, ho, hs⟩ := i₁.tup_inv
  obtain ⟨v, u, t, rfl, iv, iu, it⟩ := hs.three
  refine wpAny_unpackItems_tuple (items := #[v, u, t]) H.good.hh (isTuple_of ho) fun h' he => ?_
  have k0 : Keeps s₁ { s₁ with heap := h' } := keeps_heap fun b o e => he b o (Nat.ne_of_lt (Heap.lt_size e)) e
  have sub : ∀ a, C.W a → (C.also L).X a := fun a q => .inl (H.good.sub a q)
  show wpAny _ _ (do holding [u, v] (bindName C.env c t); holding [v] (bindName C.env x u); holding [] (bindName C.env a v); pure ()) _ _ _
  refine wpAny_bind (wpAny_holding (wpAny_bindName (wpAny_mono (store_name (C := C.also L) (hc L) (S₁.keeps k0) (it.keeps k0)) (fun _ s₂ h₂ => ?_) fun _ _ z => z)))
  refine wpAny_bind (wpAny_holding (wpAny_bindName (wpAny_mono (store_name (C := C.also L) (hx L) h₂.2 ((iu.keeps k0).keepsW h₂.1 sub)) (fun _ s₃ h₃ => ?_) fun _ _ z => z)))
  refine wpAny_bind (wpAny_holding (wpAny_bindName (wpAny_mono (store_name (C := C.also L) (ha L) h₃.2 (((iv.keeps k0).keepsW h₂.1 sub).keepsW h₃.1 sub)) (fun _ s₄ h₄ => ?_) fun _ _ z => z)))
  have kw : KeepsW C.W s₁ s₄ := keepsW_trans (keepsW_of k0) (keepsW_trans h₂.1 (keepsW_trans h₃.1 h₄.1))
  exact wpAny_pure ⟨rfl, keepsW_trans (keepsW_of k₁) kw, L, ⟨H.good, a2, a3, h₄.2.sub (hsub L), F₁.keepsW kw (fun q => a2 (H.good.sub _ q)) sub⟩, a1⟩

theorem BiD.eq' {f : Value} {l : List D} {i j : Int} (h : BiD prog w h₀ C ρ f l (.int i)) (e : i = j) : BiD prog w h₀ C ρ f l (.int j) := e ▸ h
theorem pile_fn (KX : (KK w).In h₀) (lim : h₀.NoLimit) (G : h₀.Ns mainGlobals mg) (B : h₀.Ns builtinsNs mb) (bi : Bis mb) (cm : List Nat) (hl : cm.length = 4) (hc : ∀ k, cm.getD k 0 ≤ 2) {r : List Int} (hr : pileF cm 20 0 [] [] = some r) :
    FnD prog w h₀ 159 1 [.list (natsD cm)] (.list (r.map D.int)) := by
  have m1 : mg "sum" = none := mg_none_of KX G (by kernel_rfl)
  refine fn_K ["comers"] KX lim (by kernel_rfl) rfl ?_ ?_
  · intro fd e vs hl
    match vs, hl with
    | [u], _ => cases e; rfl
  · intro C I
    show ExsD _ _ _ _ [("comers", .list (natsD cm))] _ _
    conv => arg 6; whnf
    refine exs_own (x := "waits") (ρ' := [("pile", .list (natsD [])), ("hour", .int (0 : Nat)), ("comers", .list (natsD cm))]) (ρ'' := []) (ds' := r.map D.int)
      (new_swap3 (a := "pile") (c := "hour") (d := .list []) (e := .int 0) (evo_next (ev_list evs_nil) (evo_here fun L => evs_cons ev_int evs_nil)) (fun L => (I.also L).sto _ (by kernel_rfl)) (fun L => (I.also L).sto _ (by kernel_rfl)) (fun L => (I.also L).sto _ (by kernel_rfl)) (fun L => by change ∀ q ∈ ([("waits", .raw (.ref L)), ("pile", .list []), ("hour", .int 0), ("comers", .list (natsD cm))] : Vs), q ∈ (_ : Vs); walk_at "m sub") (swapsSole_of I.scp (by with_unfolding_all rfl)) (swapped_of I.scp (by with_unfolding_all rfl)))
      (own_while ?_) (exs_ret (ex_ret (ev_name (by walk_at "m mem"))))
    suffices go : ∀ (f h : Nat) (p : List Nat) (ws : List Int), pileF cm f h p ws = some r → p.length + 2 * (4 - h) ≤ 50 → ws.length + f ≤ 100 → h + f ≤ 100 → (∀ y ∈ p, y ≤ 100) → OwhD prog w h₀ C "waits" [("pile", .list (natsD p)), ("hour", .int h), ("comers", .list (natsD cm))] (ws.map D.int) _ _ [] (r.map D.int) from go 20 0 [] [] hr (by decide) (by decide) (by decide) (by simp)
    intro f
    induction f with
    | zero => intro h p ws hr; cases hr
    | succ f ih =>
      intro h p ws hr b1 b2 b3 b4
      unfold pileF at hr
      have hu : ∀ L, (C.also L).A.units + 64 < cLine := fun L => by have := I.room.units; show C.A.units + 64 < cLine; omega
      have hu : ∀ L, (C.also L).A.units + 64 < cLine := fun L => by have := I.room.units; show C.A.units + 64 < cLine; omega
      split at hr
      · rename_i hq
        have hc' := hc h
        have hcz : 4 ≤ h → cm.getD h 0 = 0 := fun q => by rw [List.getD_eq_getElem?_getD, List.getElem?_eq_none (by omega)]; rfl
        have hp1l : (p ++ List.replicate (cm.getD h 0) h).length + 2 * (4 - (h + 1)) ≤ 50 := by
          rw [List.length_append, List.length_replicate]
          rcases Nat.lt_or_ge h 4 with q | q
          · omega
          · have := hcz q; omega
        have hp1b : ∀ y ∈ p ++ List.replicate (cm.getD h 0) h, y ≤ 100 := by
          intro y hy
          rcases List.mem_append.mp hy with q | q
          · exact b4 y q
          · have := (List.mem_replicate.mp q).2; omega
        split at hr
        · rename_i hlast
          have e := List.getLast?_eq_none_iff.mp hlast
          have hemp : (p ++ List.replicate (cm.getD h 0) h).isEmpty = true := by rw [e]; rfl
          refine owh_turn (fun L => (tr_or2 ((tr_cmp (ev_name (by walk_at "m mem")) ev_int cmp_lt_int).eq (d' := decide (h < 4)) (decide_eq_decide.mpr (by omega))) fun _ => (tr_cmp (ev_name (by walk_at "m mem")) (ev_list evs_nil) (cmp_ne_data (okd_ok (nats_okd _) (by decide)) (okd_ok nil_okd1 (by decide)) (hu L))).eq (d' := !p.isEmpty) (by rw [eqv_nil, natsD_empty])).eq hq) ?_ (ih (h + 1) _ ws hr hp1l (by omega) (by omega) hp1b)
          refine own_cons (ρ' := [("pile", .list (natsD (p ++ List.replicate (cm.getD h 0) h))), ("hour", .int h), ("comers", .list (natsD cm))]) (own_ex fun L => ⟨_, ex_assign (d := .list (natsD (p ++ List.replicate (cm.getD h 0) h)))
          ((ev_bin (ev_name (by walk_at "m mem")) (ev_bin (ev_list (evs_cons (ev_name (by walk_at "m mem")) evs_nil) (by show 1 ≤ sizeLine; decide)) (ev_callB (ev_bi G m1 B bi.sum (I.also L).scp (by kernel_rfl)) (evs_cons ((ev_slice_list (a := some h) (b := some ((h : Int) + 1)) (ev_name (by walk_at "m mem")) (part_some (ev_name (by walk_at "m mem"))) (part_some (ev_bin (ev_name (by walk_at "m mem")) ev_int bin_add_int)) (by unfold natsD; rw [List.length_map, hl]; decide)).eq (d' := .list ((((cm.drop h).take 1).map fun (n : Nat) => (n : Int)).map D.int)) (by rw [natsD_int, ← sliceL_map, ← sliceL_map, sliceL_one])) evs_nil) (BiD.eq' bi_sum (sum_one cm h))) (bin_list_mul (by omega) (by omega) (by show 1 * ((cm.getD h 0 : Nat) : Int).toNat ≤ 2 ^ 24; rw [Int.toNat_natCast]; omega))) (bin_list_add (by unfold natsD; rw [rep_flat, List.length_map, List.length_replicate, sizeLine_eq]; omega))).eq (by
            rw [rep_flat]; unfold natsD; rw [List.map_append, List.map_replicate, Int.toNat_natCast])) ((I.also L).sto _ (by kernel_rfl)) (swaps_of (I.also L).scp (by with_unfolding_all rfl)), by walk_at "m sub"⟩) ?_
          refine own_cons (own_if (c := false) (fun L => (tr_cmp (ev_name (by walk_at "m mem")) (ev_list evs_nil) (cmp_ne_data (okd_ok (nats_okd _) (by decide)) (okd_ok nil_okd1 (by decide)) (hu L))).eq (by rw [eqv_nil, natsD_empty, hemp]; rfl)) (fun q => nomatch q) fun _ => own_nil) ?_
          refine (own_cons (ρ' := [("hour", .int ((h : Int) + 1)), ("pile", .list (natsD (p ++ List.replicate (cm.getD h 0) h))), ("comers", .list (natsD cm))]) (own_ex fun L => ⟨_, ex_aug (by walk_at "m mem") ev_int ((I.also L).sto _ (by kernel_rfl)) iadd, by walk_at "m sub"⟩) own_nil).less ?_
          rw [show (h : Int) + 1 = ((h + 1 : Nat) : Int) by omega]
          walk_at "m sub"
        · rename_i y hlast
          have hemp : (p ++ List.replicate (cm.getD h 0) h).isEmpty = false := by
            cases q : p ++ List.replicate (cm.getD h 0) h with
            | nil => rw [q] at hlast; cases hlast
            | cons a b => rfl
          generalize hp1 : p ++ List.replicate (cm.getD h 0) h = p1 at hemp hlast hp1l hp1b hr
          have hd1 : p1.dropLast.length ≤ p1.length := by rw [List.length_dropLast]; omega
          refine owh_turn (fun L => (tr_or2 ((tr_cmp (ev_name (by walk_at "m mem")) ev_int cmp_lt_int).eq (d' := decide (h < 4)) (decide_eq_decide.mpr (by omega))) fun _ => (tr_cmp (ev_name (by walk_at "m mem")) (ev_list evs_nil) (cmp_ne_data (okd_ok (nats_okd _) (by decide)) (okd_ok nil_okd1 (by decide)) (hu L))).eq (d' := !p.isEmpty) (by rw [eqv_nil, natsD_empty])).eq hq) ?_ (ih (h + 1) _ _ hr (by omega) (by rw [List.length_append]; simp only [List.length_cons, List.length_nil]; omega) (by omega) (fun y hy => hp1b y ((List.dropLast_sublist _).subset hy)))
          refine own_cons (ρ' := [("pile", .list (natsD (p ++ List.replicate (cm.getD h 0) h))), ("hour", .int h), ("comers", .list (natsD cm))]) (own_ex fun L => ⟨_, ex_assign (d := .list (natsD (p ++ List.replicate (cm.getD h 0) h)))
          ((ev_bin (ev_name (by walk_at "m mem")) (ev_bin (ev_list (evs_cons (ev_name (by walk_at "m mem")) evs_nil) (by show 1 ≤ sizeLine; decide)) (ev_callB (ev_bi G m1 B bi.sum (I.also L).scp (by kernel_rfl)) (evs_cons ((ev_slice_list (a := some h) (b := some ((h : Int) + 1)) (ev_name (by walk_at "m mem")) (part_some (ev_name (by walk_at "m mem"))) (part_some (ev_bin (ev_name (by walk_at "m mem")) ev_int bin_add_int)) (by unfold natsD; rw [List.length_map, hl]; decide)).eq (d' := .list ((((cm.drop h).take 1).map fun (n : Nat) => (n : Int)).map D.int)) (by rw [natsD_int, ← sliceL_map, ← sliceL_map, sliceL_one])) evs_nil) (BiD.eq' bi_sum (sum_one cm h))) (bin_list_mul (by omega) (by omega) (by show 1 * ((cm.getD h 0 : Nat) : Int).toNat ≤ 2 ^ 24; rw [Int.toNat_natCast]; omega))) (bin_list_add (by unfold natsD; rw [rep_flat, List.length_map, List.length_replicate, sizeLine_eq]; omega))).eq (by
            rw [rep_flat]; unfold natsD; rw [List.map_append, List.map_replicate, Int.toNat_natCast])) ((I.also L).sto _ (by kernel_rfl)) (swaps_of (I.also L).scp (by with_unfolding_all rfl)), by walk_at "m sub"⟩) ?_
          rw [hp1]
          have hlen : (natsD p1).length = p1.length := by unfold natsD; rw [List.length_map]
          have hpos : p1.length ≠ 0 := fun q => by rw [List.eq_nil_of_length_eq_zero q] at hlast; cases hlast
          refine own_cons (ρ' := [("pile", .list (natsD p1.dropLast)), ("hour", .int h), ("comers", .list (natsD cm))]) (own_if (ds' := (ws ++ [(h : Int) - y]).map D.int) (c := true) (fun L => (tr_cmp (ev_name (by walk_at "m mem")) (ev_list evs_nil) (cmp_ne_data (okd_ok (nats_okd _) (by decide)) (okd_ok nil_okd1 (by decide)) (hu L))).eq (by rw [eqv_nil, natsD_empty, hemp]; rfl)) (fun _ => ?_) (fun q => nomatch q)) ?_
          · refine own_cons (ρ' := [("pile", .list (natsD p1)), ("hour", .int h), ("comers", .list (natsD cm))]) (ds' := (ws ++ [(h : Int) - y]).map D.int) ?_ (own_cons (own_ex fun L => ⟨_, ex_assign (d := .list (natsD p1.dropLast)) ((ev_slice_list (a := none) (b := some (-1)) (ev_name (by walk_at "m mem")) part_none (part_some (ev_neg ev_int)) (by rw [hlen, sizeLine_eq]; omega)).eq (by rw [sliceL_last]; unfold natsD; rw [List.map_dropLast])) ((I.also L).sto _ (by kernel_rfl)) (swaps_of (I.also L).scp (by with_unfolding_all rfl)), by walk_at "m sub"⟩) own_nil)
            rw [List.map_append]
            exact own_app (fun L => ev_bin (ev_name (by walk_at "m mem")) (ev_item_neg (k := -1) (d := .int y) (ev_name (by walk_at "m mem")) (ev_neg ev_int) (by decide) (by rw [hlen]; omega) (by decide) (by
              rw [hlen, show (-1 + (p1.length : Int)).toNat = p1.length - 1 by omega]; unfold natsD; rw [List.getElem?_map, ← List.getLast?_eq_getElem?, hlast]; rfl)) bin_sub_int) (by rw [List.length_map]; omega) (hi := interactive_of I.scp (by with_unfolding_all rfl)) (hs := swaps_of I.scp (by with_unfolding_all rfl))
          · refine (own_cons (ρ' := [("hour", .int ((h : Int) + 1)), ("pile", .list (natsD p1.dropLast)), ("comers", .list (natsD cm))]) (own_ex fun L => ⟨_, ex_aug (by walk_at "m mem") ev_int ((I.also L).sto _ (by kernel_rfl)) iadd, by walk_at "m sub"⟩) own_nil).less ?_
            rw [show (h : Int) + 1 = ((h + 1 : Nat) : Int) by omega]
            walk_at "m sub"
      · rename_i hq
        cases hr
        rw [Bool.not_eq_true] at hq
        exact OwhD.less (owh_done (fun L => (tr_or2 ((tr_cmp (ev_name (by walk_at "m mem")) ev_int cmp_lt_int).eq (d' := decide (h < 4)) (decide_eq_decide.mpr (by omega))) fun _ => (tr_cmp (ev_name (by walk_at "m mem")) (ev_list evs_nil) (cmp_ne_data (okd_ok (nats_okd _) (by decide)) (okd_ok nil_okd1 (by decide)) (hu L))).eq (d' := !p.isEmpty) (by rw [eqv_nil, natsD_empty])).eq hq)) (by walk_at "m sub")
end
end Mine

set_option Elab.async false
set_option linter.unusedVariables false
set_option linter.unusedSimpArgs false
set_option maxRecDepth 100000
namespace Mine
open PySem.Challenge

local macro_rules | `(tactic| walk_at "m mem") => `(tactic| first
  | with_reducible exact put_head
  | with_reducible exact List.mem_cons_self
  | (with_reducible apply put_tail (h := by decide +kernel); walk_at "m mem")
  | (with_reducible refine List.mem_cons_of_mem _ ?_; walk_at "m mem")
  | (with_reducible refine cap_mem (by kernel_rfl) ?_; walk_at "m mem"))
local macro_rules | `(tactic| walk_at "m sub") => `(tactic| first
  | with_reducible exact allIn_nil
  | (with_reducible refine allIn_cons (by walk_at "m mem") ?_; walk_at "m sub"))

def rowsD (ds : List Nat) : List D := ds.map fun d => .str (rowS d)
theorem rowsD_get {t : List Nat} {l : Nat} (h : l < t.length) : (rowsD t)[(l : Int).toNat]? = some (.str (rowS (t.getD l 0))) := by
  unfold rowsD
  rw [Int.toNat_natCast, List.getElem?_map, List.getD_eq_getElem?_getD, List.getElem?_eq_getElem h]; rfl
def cmpR (i j : Nat) : Int := if i < j then 1 else if j < i then -1 else 0
theorem rowL_lt : ∀ a b : Nat, (rowL a < rowL b) ↔ b < a
  | 0, 0 => by unfold rowL; simp
  | 0, b + 1 => by
    show ([97] : List Nat) < 46 :: rowL b ↔ _
    rw [List.cons_lt_cons_iff]; simp
  | a + 1, 0 => by
    show 46 :: rowL a < ([97] : List Nat) ↔ _
    rw [List.cons_lt_cons_iff]; simp
  | a + 1, b + 1 => by
    show 46 :: rowL a < 46 :: rowL b ↔ _
    rw [List.cons_lt_cons_iff, rowL_lt a b]; simp
theorem cmp_row (i j : Nat) : cmpI (rowS i) (rowS j) = cmpR i j := by
  unfold cmpI cmpR
  show (if decide (rowL j < rowL i) then (1 : Int) else 0) - (if decide (rowL i < rowL j) then 1 else 0) = _
  simp only [decide_eq_true_eq, rowL_lt]
  split <;> split <;> (try split) <;> omega
def bestL (t : List Nat) (side : Int) (ks : List Nat) (b : Nat) : Nat := ks.foldl (fun b k => if cmpR (t.getD k 0) (t.getD b 0) == side then k else b) b
def bestF (t : List Nat) (side : Int) : Nat := bestL t side (List.range' 1 (t.length - 1)) 0
theorem bestL_lt (t : List Nat) (side : Int) (n : Nat) : ∀ (ks : List Nat) (b : Nat), (∀ k ∈ ks, k < n) → b < n → bestL t side ks b < n
  | [], b, _, h => h
  | k :: ks, b, hk, h => by
    unfold bestL
    rw [List.foldl_cons]
    refine bestL_lt t side n ks _ (fun j hj => hk j (.tail _ hj)) ?_
    split
    · exact hk k (.head _)
    · exact h
theorem bestF_lt {t : List Nat} {side : Int} (h : t.length ≠ 0) : bestF t side < t.length :=
  bestL_lt t side _ _ 0 (fun k hk => by have := (List.mem_range'_1.mp hk).2; omega) (by omega)

section
variable {prog : Program} {w : World} {h₀ : Heap} {mg mb : Str → Option Value} {C : Cx} {ρ ρ' : Vs} {x : Str}

theorem best_fn (KX : (KK w).In h₀) (lim : h₀.NoLimit) (G : h₀.Ns mainGlobals mg) (B : h₀.Ns builtinsNs mb) (bi : Bis mb) (t : List Nat) (side : Int) (h0 : t.length ≠ 0) (h1 : t.length ≤ 100) :
    FnD prog w h₀ 142 2 [.list (rowsD t), .int side] (.int (bestF t side : Nat)) := by
  have m1 : mg "range" = none := mg_none_of KX G (by kernel_rfl)
  have m2 : mg "len" = none := mg_none_of KX G (by kernel_rfl)
  have g1 : mg "_strcoll" = some (.ref 62) := mg_of KX G (by kernel_rfl)
  have hlen : (rowsD t).length = t.length := by unfold rowsD; rw [List.length_map]
  refine fn_K ["tray", "side"] KX lim (by kernel_rfl) rfl ?_ ?_
  · intro fd e vs hl
    match vs, hl with
    | [u, v], _ => cases e; rfl
  · intro C I
    show ExsD _ _ _ _ [("tray", .list (rowsD t)), ("side", .int side)] _ _
    conv => arg 6; whnf
    refine exs_cons (ex_assign ev_int (I.sto _ (by kernel_rfl))) ?_
    refine exs_cons (ρ' := [("best", .int (bestF t side : Nat))]) (ex_for (src := .range 1 t.length) (ds := (List.range' 1 (t.length - 1)).map fun (k : Nat) => D.int k) (ev_callT (ev_bi G m1 B bi.range I.scp (by kernel_rfl)) (evs_cons ev_int (evs_cons ((ev_callB (ev_bi G m2 B bi.len I.scp (by kernel_rfl)) (evs_cons (ev_name (by walk_at "m mem")) evs_nil) (bi_len_list (by omega))).eq (by rw [hlen])) evs_nil)) bi_range2) ?_ ?_) (exs_ret (ex_ret (ev_name (by walk_at "m mem"))))
    · have := iter_range (lo := 1) (hi := t.length) (t.length - 1) (.inl (by omega)) (by omega) (by omega) (by omega) (by omega)
      rwa [show intsFrom 1 (t.length - 1) = _ from intsFrom_map 1 _] at this
    suffices go : ∀ (ks : List Nat) (b : Nat), (∀ k ∈ ks, k < t.length) → b < t.length → ForD prog w h₀ C [("best", .int b), ("tray", .list (rowsD t)), ("side", .int side)] _ _ (ks.map fun (k : Nat) => D.int k) (.next [("best", .int (bestL t side ks b : Nat)), ("tray", .list (rowsD t)), ("side", .int side)]) from
      fun I s G nX n0 H T => codeAny_mono (go (List.range' 1 (t.length - 1)) 0 (fun k hk => by have := (List.mem_range'_1.mp hk).2; omega) (by omega) I s G nX n0 (H.sub (by change ∀ q ∈ ([("best", .int 0), ("tray", .list (rowsD t)), ("side", .int side)] : Vs), q ∈ (_ : Vs); walk_at "m sub")) T) fun r s' z => by
        cases r with
        | error e => exact z
        | ok f => exact ⟨z.1, z.2.1, z.2.2.sub fun q hq => by rcases List.mem_cons.mp hq with rfl | hq; exact .head _; cases hq⟩
    intro ks
    induction ks with
    | nil => intro b _ _; exact for_nil
    | cons k ks ih =>
      intro b hk hb
      have k1 := hk k (.head _)
      have step : bestL t side (k :: ks) b = bestL t side ks (if cmpR (t.getD k 0) (t.getD b 0) == side then k else b) := rfl
      rw [step]
      refine for_next (ρ'' := [("best", .int (if cmpR (t.getD k 0) (t.getD b 0) == side then k else b : Nat)), ("tray", .list (rowsD t)), ("side", .int side)]) (fun J => asg_name ((I.also J).sto _ (by kernel_rfl))) (fun J => ?_) (ForD.sub (ih (if cmpR (t.getD k 0) (t.getD b 0) == side then k else b) (fun j hj => hk j (.tail _ hj)) (by split <;> assumption)) ?_)
      · refine exs_cons (ex_if (c := cmpR (t.getD k 0) (t.getD b 0) == side) ((tr_cmp ((ev_callK KX (ev_glob G g1 (I.also J).scp (by kernel_rfl)) (by kernel_rfl) (evs_cons (ev_item_list (ev_name (by walk_at "m mem")) (ev_name (by walk_at "m mem")) (by omega) (by omega) (rowsD_get k1)) (evs_cons (ev_item_list (ev_name (by walk_at "m mem")) (ev_name (by walk_at "m mem")) (by omega) (by omega) (rowsD_get hb)) evs_nil)) (strcoll_fn KX lim _ _) (I.also J).room).eq (congrArg D.int (cmp_row _ _))) (ev_name (by walk_at "m mem")) cmp_eq_int).eq rfl) (fun q => ?_) fun q => ?_) exs_nil
        · rw [if_pos q]
          exact (exs_cons (ex_assign (ev_name (by walk_at "m mem")) ((I.also J).sto _ (by kernel_rfl))) exs_nil).less (by walk_at "m sub")
        · rw [if_neg (by rw [q]; decide)]
          exact exs_nil.less (by walk_at "m sub")
      · walk_at "m sub"
end
end Mine

set_option Elab.async false
set_option linter.unusedVariables false
set_option linter.unusedSimpArgs false
set_option maxRecDepth 100000
namespace Mine
open PySem.Challenge

local macro_rules | `(tactic| walk_at "m mem") => `(tactic| first
  | with_reducible exact put_head
  | with_reducible exact List.mem_cons_self
  | (with_reducible apply put_tail (h := by decide +kernel); walk_at "m mem")
  | (with_reducible refine List.mem_cons_of_mem _ ?_; walk_at "m mem")
  | (with_reducible refine cap_mem (by kernel_rfl) ?_; walk_at "m mem"))
local macro_rules | `(tactic| walk_at "m sub") => `(tactic| first
  | with_reducible exact allIn_nil
  | (with_reducible refine allIn_cons (by walk_at "m mem") ?_; walk_at "m sub"))

theorem IsAll.five {X : Addr → Prop} {h : Heap} {vs : List Value} {a b c d e : D} (q : IsAll X h vs [a, b, c, d, e]) : ∃ v1 v2 v3 v4 v5, vs = [v1, v2, v3, v4, v5] ∧ Is X h v1 a ∧ Is X h v2 b ∧ Is X h v3 c ∧ Is X h v4 d ∧ Is X h v5 e := by
  cases q with
  | cons x1 r => cases r with
    | cons x2 r => cases r with
      | cons x3 r => cases r with
        | cons x4 r => cases r with
          | cons x5 r => cases r; exact ⟨_, _, _, _, _, rfl, x1, x2, x3, x4, x5⟩

/-! the hours -/
def pickOf (side picks : Int) (h : Nat) (t : List Nat) : Nat := if side = 0 then ((picks.fdiv (8 ^ h)).fmod (t.length : Int)).toNat else bestF t side
def runR (cm : List Nat) (pick : Nat → List Nat → Nat) : Nat → Nat → List Nat → List Nat → Bool → Bool → Option (List Nat × Bool × Bool)
  | 0, _, _, _, _, _ => none
  | f + 1, h, tr, kept, o, y => if (decide (h < 4) || !tr.isEmpty) = true then
      (if (tr ++ List.replicate (cm.getD h 0) 1).isEmpty = true then runR cm pick f (h + 1) (tr ++ List.replicate (cm.getD h 0) 1) kept o y
       else runR cm pick f (h + 1) (((tr ++ List.replicate (cm.getD h 0) 1).eraseIdx (pick h (tr ++ List.replicate (cm.getD h 0) 1))).map (· + 1)) (kept ++ [(tr ++ List.replicate (cm.getD h 0) 1).getD (pick h (tr ++ List.replicate (cm.getD h 0) 1)) 0])
         (o && !(tr ++ List.replicate (cm.getD h 0) 1).any fun x => decide ((tr ++ List.replicate (cm.getD h 0) 1).getD (pick h (tr ++ List.replicate (cm.getD h 0) 1)) 0 < x))
         (y && !(tr ++ List.replicate (cm.getD h 0) 1).any fun x => decide (x < (tr ++ List.replicate (cm.getD h 0) 1).getD (pick h (tr ++ List.replicate (cm.getD h 0) 1)) 0)))
    else some (kept, o, y)
theorem pickOf_lt {side picks : Int} {h : Nat} {t : List Nat} (ht : t.length ≠ 0) : pickOf side picks h t < t.length := by
  unfold pickOf
  split
  · have h1 := Int.fmod_nonneg_of_pos (picks.fdiv (8 ^ h)) (b := (t.length : Int)) (by omega)
    have h2 := Int.fmod_lt_of_pos (picks.fdiv (8 ^ h)) (b := (t.length : Int)) (by omega)
    omega
  · exact bestF_lt ht
theorem cmpR_neg (x v : Nat) : cmpR x v = -1 ↔ v < x := by unfold cmpR; split <;> (try split) <;> omega
theorem cmpR_pos (x v : Nat) : cmpR x v = 1 ↔ x < v := by unfold cmpR; split <;> (try split) <;> omega
theorem sign_old (t : List Nat) (v : Nat) : (!decide ((-1 : Int) ∈ t.map fun x => cmpR x v)) = !t.any fun x => decide (v < x) := by
  congr 1
  rw [Bool.eq_iff_iff, decide_eq_true_iff, List.any_eq_true, List.mem_map]
  constructor
  · rintro ⟨x, hx, e⟩; exact ⟨x, hx, decide_eq_true ((cmpR_neg x v).mp e)⟩
  · rintro ⟨x, hx, e⟩; exact ⟨x, hx, (cmpR_neg x v).mpr (of_decide_eq_true e)⟩
theorem sign_young (t : List Nat) (v : Nat) : (!decide ((1 : Int) ∈ t.map fun x => cmpR x v)) = !t.any fun x => decide (x < v) := by
  congr 1
  rw [Bool.eq_iff_iff, decide_eq_true_iff, List.any_eq_true, List.mem_map]
  constructor
  · rintro ⟨x, hx, e⟩; exact ⟨x, hx, decide_eq_true ((cmpR_pos x v).mp e)⟩
  · rintro ⟨x, hx, e⟩; exact ⟨x, hx, (cmpR_pos x v).mpr (of_decide_eq_true e)⟩
theorem slice_erase {α : Type} (l : List α) (b : Nat) (h : b < l.length) : sliceL l none (some (b : Int)) ++ sliceL l (some ((b : Int) + 1)) none = l.eraseIdx b := by
  unfold sliceL
  rw [show (b : Int) + 1 = ((b + 1 : Nat) : Int) by omega]
  simp only [Option.elim, clip_nat]
  have e : (l.drop (b + 1)).take (l.length - (b + 1)) = l.drop (b + 1) := List.take_of_length_le (by rw [List.length_drop]; omega)
  rw [Nat.min_eq_left (by omega), Nat.min_eq_left (by omega), List.eraseIdx_eq_take_drop_succ, List.drop_zero, Nat.sub_zero, e]
theorem rows_erase (t : List Nat) (b : Nat) : (rowsD t).eraseIdx b = rowsD (t.eraseIdx b) := by
  unfold rowsD
  rw [List.eraseIdx_eq_take_drop_succ, List.eraseIdx_eq_take_drop_succ, List.map_append, List.map_take, List.map_drop]
theorem rows_okd (t : List Nat) : (D.list (rowsD t)).okd 1 = true := okd_list fun d hd => by
  obtain ⟨i, _, rfl⟩ := List.mem_map.mp hd
  refine okd_str ?_ _
  unfold PyData.strOk rowS
  rw [Array.all_eq_true']
  intro k hk
  have := List.mem_toArray.mp hk
  unfold rowL at this
  simp only [List.mem_append, List.mem_replicate, List.mem_cons, List.not_mem_nil, or_false] at this
  exact decide_eq_true (by omega)
theorem rowsD_empty (l : List Nat) : (rowsD l).isEmpty = l.isEmpty := by cases l <;> rfl
theorem pow8_log {k : Nat} (h : k < 60) : ((8 : Int) ^ k).natAbs.log2 < 9000 := by
  have e : ((8 : Int) ^ k).natAbs = 8 ^ k := by rw [Int.natAbs_pow]; rfl
  rw [e]
  have h1 : (8 : Nat) ^ k ≤ 8 ^ 60 := Nat.pow_le_pow_right (by decide) (by omega)
  have h2 : (8 : Nat) ^ 60 < 2 ^ 9000 := by decide +kernel
  exact (Nat.log2_lt (by exact Nat.pos_iff_ne_zero.mp (Nat.pow_pos (by decide)))).mpr (Nat.lt_of_le_of_lt h1 h2)
theorem page_len (e ds : List Nat) (B : Nat) (h : ∀ d ∈ ds, d ≤ B) : (pageL e ds).length ≤ ds.length * (B + 1 + e.length) := by
  unfold pageL
  refine flatMap_len _ _ _ fun d hd => ?_
  have := h d hd
  simp [rowL]; omega
theorem join_page {e : List Nat} (ds : List Nat) : Txt.join ⟨#[]⟩ (ds.map fun d => (rowS d ++ ⟨e.toArray⟩ : Str)) = ⟨(pageL e ds).toArray⟩ := by
  refine str_of ?_
  rw [join_list]
  unfold pageL
  rw [List.flatMap_map]
  congr 1
  funext d
  show ((rowL d).toArray ++ e.toArray).toList = _
  simp
theorem parts_len (ds : List Nat) : (Builtin.Str.partsBetween ⟨(pageL [13, 10] ds).toArray⟩ (Builtin.Str.occurrences ⟨(pageL [13, 10] ds).toArray⟩ ⟨#[13, 10]⟩ 0 (⟨(pageL [13, 10] ds).toArray⟩ : Str).length ((⟨(pageL [13, 10] ds).toArray⟩ : Str).length + 1)) (⟨#[13, 10]⟩ : Str).length).length = ds.length + 1 := by
  obtain ⟨f, h1, h2⟩ := StrLaws.occ_tight ⟨(pageL [13, 10] ds).toArray⟩ ⟨#[13, 10]⟩ (by decide)
  have hp := page_parts ⟨(pageL [13, 10] ds).toArray⟩ ds 0 _ f rfl h1 h2
  rw [StrLaws.partsBetween_eq]
  have := congrArg List.length hp
  rw [List.length_append, List.length_map] at this
  exact this

section
variable {prog : Program} {w : World} {h₀ : Heap} {mg mb : Str → Option Value} {C : Cx} {ρ ρ' : Vs} {x : Str}

theorem new_five {es : List Expr} {k k2 : Nat} {tp p2 pos q1 q2 q3 q4 q5 : Pos} {n1 n3 n4 n5 : Str} {d1 d3 d4 d5 : D} (h : EvsO prog w h₀ C ρ es (fun L => [d1, .raw (.ref L), d3, d4, d5]))
    (h1 : ∀ L, Stores (C.also L) n1) (h2 : ∀ L, Stores (C.also L) x) (h3 : ∀ L, Stores (C.also L) n3) (h4 : ∀ L, Stores (C.also L) n4) (h5 : ∀ L, Stores (C.also L) n5)
    (hsub : ∀ L, ∀ p ∈ (x, .raw (.ref L)) :: ρ', p ∈ put (put (put (put (put ρ n1 d1) x (.raw (.ref L))) n3 d3) n4 d4) n5 d5)
    (hs : swapsWithSole [.Tuple [.Name n1 q1, .Name x q2, .Name n3 q3, .Name n4 q4, .Name n5 q5] k tp] (.Tuple es k2 p2) pos.line C.env = pure false := by rfl)
    (hw : swappedStores [.Tuple [.Name n1 q1, .Name x q2, .Name n3 q3, .Name n4 q4, .Name n5 q5] k tp] (.Tuple es k2 p2) C.env = pure none := by rfl) :
    OwnNew prog w h₀ C ρ (.Assign [.Tuple [.Name n1 q1, .Name x q2, .Name n3 q3, .Name n4 q4, .Name n5 q5] k tp] (.Tuple es k2 p2) pos) x ρ' := fun s H => by
  refine Assign_Tuple (wpAny_mono (ev_tupO h (fun L => by simp) H) (fun v s₁ z => ?_) fun _ _ z => z.elim) hs hw
  obtain ⟨k₁, L, a1, a2, a3, S₁, F₁, i₁⟩ := z
  obtain ⟨ad, vs, n, rfl, hX, ho, hs⟩ := i₁.tup_inv
  obtain ⟨v1, v2, v3, v4, v5, rfl, i1, i2, i3, i4, i5⟩ := hs.five
  refine wpAny_assign_Tuple H.good.hh (isTuple_of ho) rfl rfl fun h' he => ?_
  have k0 : Keeps s₁ { s₁ with heap := h' } := keeps_heap fun b o e => he b o (Nat.ne_of_lt (Heap.lt_size e)) e
  have sub : ∀ a, C.W a → (C.also L).X a := fun a q => .inl (H.good.sub a q)
  have j1 := i1.keeps k0; have j2 := i2.keeps k0; have j3 := i3.keeps k0; have j4 := i4.keeps k0; have j5 := i5.keeps k0
  show wpAny _ _ (do holding [v2, v3, v4, v5] (assign (.Name n1 q1) C.env v1); holding [v3, v4, v5] (assign (.Name x q2) C.env v2); holding [v4, v5] (assign (.Name n3 q3) C.env v3); holding [v5] (assign (.Name n4 q4) C.env v4); holding [] (assign (.Name n5 q5) C.env v5); pure ()) _ _ _
  refine wpAny_bind (wpAny_holding (wpAny_assign_Name (wpAny_mono (store_name (C := C.also L) (h1 L) (S₁.keeps k0) j1) (fun _ s₂ z₂ => ?_) fun _ _ z => z)))
  replace j2 := j2.keepsW z₂.1 sub; replace j3 := j3.keepsW z₂.1 sub; replace j4 := j4.keepsW z₂.1 sub; replace j5 := j5.keepsW z₂.1 sub
  refine wpAny_bind (wpAny_holding (wpAny_assign_Name (wpAny_mono (store_name (C := C.also L) (h2 L) z₂.2 j2) (fun _ s₃ z₃ => ?_) fun _ _ z => z)))
  replace j3 := j3.keepsW z₃.1 sub; replace j4 := j4.keepsW z₃.1 sub; replace j5 := j5.keepsW z₃.1 sub
  refine wpAny_bind (wpAny_holding (wpAny_assign_Name (wpAny_mono (store_name (C := C.also L) (h3 L) z₃.2 j3) (fun _ s₄ z₄ => ?_) fun _ _ z => z)))
  replace j4 := j4.keepsW z₄.1 sub; replace j5 := j5.keepsW z₄.1 sub
  refine wpAny_bind (wpAny_holding (wpAny_assign_Name (wpAny_mono (store_name (C := C.also L) (h4 L) z₄.2 j4) (fun _ s₅ z₅ => ?_) fun _ _ z => z)))
  replace j5 := j5.keepsW z₅.1 sub
  refine wpAny_bind (wpAny_holding (wpAny_assign_Name (wpAny_mono (store_name (C := C.also L) (h5 L) z₅.2 j5) (fun _ s₆ z₆ => ?_) fun _ _ z => z)))
  have kw : KeepsW C.W s₁ s₆ := keepsW_trans (keepsW_of k0) (keepsW_trans z₂.1 (keepsW_trans z₃.1 (keepsW_trans z₄.1 (keepsW_trans z₅.1 z₆.1))))
  exact wpAny_pure ⟨rfl, keepsW_trans (keepsW_of k₁) kw, L, ⟨H.good, a2, a3, z₆.2.sub (hsub L), F₁.keepsW kw (fun q => a2 (H.good.sub _ q)) sub⟩, a1⟩

theorem pick8_ev {e1 e2 e3 : Expr} {p1 p2 p3 p4 : Pos} {k7 : Nat} {picks : Int} {k n : Nat} (hk : k < 60) (hn : n ≠ 0) (h1 : EvD prog w h₀ C ρ e1 (.int picks)) (h2 : EvD prog w h₀ C ρ e2 (.int k)) (h3 : EvD prog w h₀ C ρ e3 (.int n)) :
    EvD prog w h₀ C ρ (.BinOp (.BinOp e1 .FloorDiv (.BinOp (.Constant (.int 8) k7 p1) .Pow e2 p2) p3) .Mod e3 p4) (.int ((picks.fdiv (8 ^ k)).fmod (n : Int))) := by
  refine ev_bin (ev_bin h1 (ev_bin ev_int h2 (bin_pow (by omega) ?_)) (bin_floordiv ?_ ?_)) h3 (bin_mod (by omega))
  · have : Builtin.Int.intBits 8 = 4 := by decide +kernel
    rw [this]; omega
  · rw [Int.toNat_natCast]
    have : (8 : Int) ^ k > 0 := Int.pow_pos (by decide)
    omega
  · rw [Int.toNat_natCast]; exact pow8_log hk
end
end Mine

set_option Elab.async false
set_option linter.unusedVariables false
set_option linter.unusedSimpArgs false
set_option maxRecDepth 100000
set_option maxHeartbeats 4000000
namespace Mine
open PySem.Challenge

local macro_rules | `(tactic| walk_at "m mem") => `(tactic| first
  | with_reducible exact put_head
  | with_reducible exact List.mem_cons_self
  | (with_reducible apply put_tail (h := by decide +kernel); walk_at "m mem")
  | (with_reducible refine List.mem_cons_of_mem _ ?_; walk_at "m mem")
  | (with_reducible refine cap_mem (by kernel_rfl) ?_; walk_at "m mem"))
local macro_rules | `(tactic| walk_at "m sub") => `(tactic| first
  | with_reducible exact allIn_nil
  | (with_reducible refine allIn_cons (by walk_at "m mem") ?_; walk_at "m sub"))

def runV (cm : List Nat) (side picks : Int) (e : List Nat) (tr : List Nat) (o y : Bool) (h : Nat) : Vs :=
  [("tray", .list (rowsD tr)), ("oldest", .bool o), ("youngest", .bool y), ("hour", .int h), ("comers", .list (natsD cm)), ("side", .int side), ("picks", .int picks), ("end", .str ⟨e.toArray⟩)]

section
variable {prog : Program} {w : World} {h₀ : Heap} {mg mb : Str → Option Value} {C : Cx} {ρ ρ' : Vs} {x : Str}

theorem run2_fn (KX : (KK w).In h₀) (lim : h₀.NoLimit) (G : h₀.Ns mainGlobals mg) (B : h₀.Ns builtinsNs mb) (bi : Bis mb) (cm : List Nat) (side picks : Int) (e : List Nat) (he : IsEnd e) (hl : cm.length = 4) (hc : ∀ k, cm.getD k 0 ≤ 2) {kept : List Nat} {o y : Bool}
    (hr : runR cm (pickOf side picks) 20 0 [] [] true true = some (kept, o, y)) :
    FnD prog w h₀ 147 3 [.list (natsD cm), .int side, .int picks, .str ⟨e.toArray⟩] (.tup [.list (rowsD kept), .bool o, .bool y]) := by
  have m1 : mg "sum" = none := mg_none_of KX G (by kernel_rfl)
  have m2 : mg "len" = none := mg_none_of KX G (by kernel_rfl)
  have g1 : mg "_strcoll" = some (.ref 62) := mg_of KX G (by kernel_rfl)
  have g2 : mg "_law_best" = some (.ref 142) := mg_of KX G (by kernel_rfl)
  have g3 : mg "quotedata" = some (.ref 55) := mg_of KX G (by kernel_rfl)
  refine fn_K ["comers", "side", "picks", "end"] KX lim (by kernel_rfl) rfl ?_ ?_
  · intro fd e vs hl
    match vs, hl with
    | [u, v, x, z], _ => cases e; rfl
  · intro C I
    show ExsD _ _ _ _ [("comers", .list (natsD cm)), ("side", .int side), ("picks", .int picks), ("end", .str ⟨e.toArray⟩)] _ _
    conv => arg 6; whnf
    refine exs_own (x := "kept") (ρ' := runV cm side picks e [] true true 0) (ρ'' := [("oldest", .bool o), ("youngest", .bool y)]) (ds' := rowsD kept)
      (new_five (d1 := .list []) (d3 := .bool true) (d4 := .bool true) (d5 := .int 0) (evo_next (ev_list evs_nil) (evo_here fun L => evs_cons ev_bool (evs_cons ev_bool (evs_cons ev_int evs_nil)))) (fun L => (I.also L).sto _ (by kernel_rfl)) (fun L => (I.also L).sto _ (by kernel_rfl)) (fun L => (I.also L).sto _ (by kernel_rfl)) (fun L => (I.also L).sto _ (by kernel_rfl)) (fun L => (I.also L).sto _ (by kernel_rfl))
        (fun L => by
          change ∀ q ∈ ([("kept", .raw (.ref L)), ("tray", .list []), ("oldest", .bool true), ("youngest", .bool true), ("hour", .int 0), ("comers", .list (natsD cm)), ("side", .int side), ("picks", .int picks), ("end", .str ⟨e.toArray⟩)] : Vs), q ∈ (_ : Vs)
          walk_at "m sub"))
      (own_while ?_) (exs_ret (ex_ret (ev_tuple (evs_cons (ev_name (by walk_at "m mem")) (evs_cons (ev_name (by walk_at "m mem")) (evs_cons (ev_name (by walk_at "m mem")) evs_nil))) (by show 3 ≤ sizeLine; decide))))
    suffices go : ∀ (f h : Nat) (tr kp : List Nat) (o' y' : Bool), runR cm (pickOf side picks) f h tr kp o' y' = some (kept, o, y) → tr.length + 2 * (4 - h) ≤ 8 → kp.length + f ≤ 100 → h + f ≤ 20 → (∀ d ∈ tr, 1 ≤ d ∧ d ≤ h + 1) → OwhD prog w h₀ C "kept" (runV cm side picks e tr o' y' h) (rowsD kp) _ _ [("oldest", .bool o), ("youngest", .bool y)] (rowsD kept) from go 20 0 [] [] true true hr (by decide) (by decide) (by decide) (by simp)
    intro f
    induction f with
    | zero => intro h tr kp o' y' hr; cases hr
    | succ f ih =>
      intro h tr kp o' y' hr b1 b2 b3 b4
      unfold runR at hr
      have hu : ∀ L, (C.also L).A.units + 64 < cLine := fun L => by have := I.room.units; show C.A.units + 64 < cLine; omega
      split at hr
      · rename_i hq
        have hc' := hc h
        have hcz : 4 ≤ h → cm.getD h 0 = 0 := fun q => by rw [List.getD_eq_getElem?_getD, List.getElem?_eq_none (by omega)]; rfl
        have ht1 : (tr ++ List.replicate (cm.getD h 0) 1).length + 2 * (4 - (h + 1)) ≤ 8 := by
          rw [List.length_append, List.length_replicate]
          rcases Nat.lt_or_ge h 4 with q | q
          · omega
          · have := hcz q; omega
        have ht2 : ∀ d ∈ tr ++ List.replicate (cm.getD h 0) 1, 1 ≤ d ∧ d ≤ h + 1 := by
          intro d hd
          rcases List.mem_append.mp hd with q | q
          · exact b4 d q
          · have := (List.mem_replicate.mp q).2; omega
        generalize hT : tr ++ List.replicate (cm.getD h 0) 1 = t at *
        have hrl : (rowsD t).length = t.length := by unfold rowsD; rw [List.length_map]
        unfold runV
        split at hr
        · rename_i hemp
          refine owh_turn (fun L => (tr_or2 ((tr_cmp (ev_name (by walk_at "m mem")) ev_int cmp_lt_int).eq (d' := decide (h < 4)) (decide_eq_decide.mpr (by omega))) fun _ => (tr_cmp (ev_name (by walk_at "m mem")) (ev_list evs_nil) (cmp_ne_data (okd_ok (rows_okd _) (by decide)) (okd_ok nil_okd1 (by decide)) (hu L))).eq (d' := !tr.isEmpty) (by rw [eqv_nil, rowsD_empty])).eq hq) ?_ (ih (h + 1) t kp o' y' hr (by omega) (by omega) (by omega) (fun d hd => by have := ht2 d hd; omega))
          refine own_cons (ρ' := [("tray", .list (rowsD t)), ("oldest", .bool o'), ("youngest", .bool y'), ("hour", .int h), ("comers", .list (natsD cm)), ("side", .int side), ("picks", .int picks), ("end", .str ⟨e.toArray⟩)]) (own_ex fun L => ⟨_, ex_assign (d := .list (rowsD t)) ?_ ((I.also L).sto _ (by kernel_rfl)) (swaps_of (I.also L).scp (by with_unfolding_all rfl)), by walk_at "m sub"⟩) ?_
          · exact (ev_bin (ev_name (by walk_at "m mem")) (ev_bin (ev_list (evs_cons (ev_str (x := rowS 1)) evs_nil) (by show 1 ≤ sizeLine; decide)) (ev_callB (ev_bi G m1 B bi.sum (I.also L).scp (by kernel_rfl)) (evs_cons ((ev_slice_list (a := some h) (b := some ((h : Int) + 1)) (ev_name (by walk_at "m mem")) (part_some (ev_name (by walk_at "m mem"))) (part_some (ev_bin (ev_name (by walk_at "m mem")) ev_int bin_add_int)) (by unfold natsD; rw [List.length_map, hl]; decide)).eq (d' := .list ((((cm.drop h).take 1).map fun (n : Nat) => (n : Int)).map D.int)) (by rw [natsD_int, ← sliceL_map, ← sliceL_map, sliceL_one])) evs_nil) (BiD.eq' bi_sum (sum_one cm h))) (bin_list_mul (by omega) (by omega) (by show 1 * ((cm.getD h 0 : Nat) : Int).toNat ≤ 2 ^ 24; rw [Int.toNat_natCast]; omega))) (bin_list_add (by unfold rowsD; rw [rep_flat, List.length_map, List.length_replicate, sizeLine_eq]; omega))).eq (by
              rw [rep_flat, ← hT]; unfold rowsD; rw [List.map_append, List.map_replicate, Int.toNat_natCast])
          refine own_cons (own_if (c := false) (fun L => (tr_cmp (ev_name (by walk_at "m mem")) (ev_list evs_nil) (cmp_ne_data (okd_ok (rows_okd _) (by decide)) (okd_ok nil_okd1 (by decide)) (hu L))).eq (by rw [eqv_nil, rowsD_empty, hemp]; rfl)) (fun q => nomatch q) fun _ => own_nil) ?_
          refine (own_cons (ρ' := [("tray", .list (rowsD t)), ("oldest", .bool o'), ("youngest", .bool y'), ("hour", .int ((h : Int) + 1)), ("comers", .list (natsD cm)), ("side", .int side), ("picks", .int picks), ("end", .str ⟨e.toArray⟩)]) (own_ex fun L => ⟨_, ex_aug (by walk_at "m mem") ev_int ((I.also L).sto _ (by kernel_rfl)) iadd, by walk_at "m sub"⟩) own_nil).less ?_
          rw [show (h : Int) + 1 = ((h + 1 : Nat) : Int) by omega]
          unfold runV
          walk_at "m sub"
        · rename_i hemp
          rw [Bool.not_eq_true] at hemp
          have hn0 : t.length ≠ 0 := fun q => by rw [List.eq_nil_of_length_eq_zero q] at hemp; cases hemp
          have hb := pickOf_lt (side := side) (picks := picks) (h := h) hn0
          generalize hbe : pickOf side picks h t = b at *
          have hel : (t.eraseIdx b).length + 1 = t.length := by rw [List.length_eraseIdx, if_pos hb]; omega
          have her : ∀ d ∈ t.eraseIdx b, 1 ≤ d ∧ d ≤ h + 1 := fun d hd => ht2 d (List.mem_of_mem_eraseIdx hd)
          refine owh_turn (fun L => (tr_or2 ((tr_cmp (ev_name (by walk_at "m mem")) ev_int cmp_lt_int).eq (d' := decide (h < 4)) (decide_eq_decide.mpr (by omega))) fun _ => (tr_cmp (ev_name (by walk_at "m mem")) (ev_list evs_nil) (cmp_ne_data (okd_ok (rows_okd _) (by decide)) (okd_ok nil_okd1 (by decide)) (hu L))).eq (d' := !tr.isEmpty) (by rw [eqv_nil, rowsD_empty])).eq hq) ?_ (ih (h + 1) _ _ _ _ hr (by rw [List.length_map]; omega) (by rw [List.length_append]; simp only [List.length_cons, List.length_nil]; omega) (by omega) (fun d hd => by
            obtain ⟨d', hd', rfl⟩ := List.mem_map.mp hd
            have := her d' hd'; omega))
          refine own_cons (ρ' := [("tray", .list (rowsD t)), ("oldest", .bool o'), ("youngest", .bool y'), ("hour", .int h), ("comers", .list (natsD cm)), ("side", .int side), ("picks", .int picks), ("end", .str ⟨e.toArray⟩)]) (own_ex fun L => ⟨_, ex_assign (d := .list (rowsD t)) ?_ ((I.also L).sto _ (by kernel_rfl)) (swaps_of (I.also L).scp (by with_unfolding_all rfl)), by walk_at "m sub"⟩) ?_
          · exact (ev_bin (ev_name (by walk_at "m mem")) (ev_bin (ev_list (evs_cons (ev_str (x := rowS 1)) evs_nil) (by show 1 ≤ sizeLine; decide)) (ev_callB (ev_bi G m1 B bi.sum (I.also L).scp (by kernel_rfl)) (evs_cons ((ev_slice_list (a := some h) (b := some ((h : Int) + 1)) (ev_name (by walk_at "m mem")) (part_some (ev_name (by walk_at "m mem"))) (part_some (ev_bin (ev_name (by walk_at "m mem")) ev_int bin_add_int)) (by unfold natsD; rw [List.length_map, hl]; decide)).eq (d' := .list ((((cm.drop h).take 1).map fun (n : Nat) => (n : Int)).map D.int)) (by rw [natsD_int, ← sliceL_map, ← sliceL_map, sliceL_one])) evs_nil) (BiD.eq' bi_sum (sum_one cm h))) (bin_list_mul (by omega) (by omega) (by show 1 * ((cm.getD h 0 : Nat) : Int).toNat ≤ 2 ^ 24; rw [Int.toNat_natCast]; omega))) (bin_list_add (by unfold rowsD; rw [rep_flat, List.length_map, List.length_replicate, sizeLine_eq]; omega))).eq (by
              rw [rep_flat, ← hT]; unfold rowsD; rw [List.map_append, List.map_replicate, Int.toNat_natCast])
          refine own_cons (ρ' := [("tray", .list (rowsD ((t.eraseIdx b).map (· + 1)))), ("oldest", .bool (o' && !t.any fun x => decide (t.getD b 0 < x))), ("youngest", .bool (y' && !t.any fun x => decide (x < t.getD b 0))), ("hour", .int h), ("comers", .list (natsD cm)), ("side", .int side), ("picks", .int picks), ("end", .str ⟨e.toArray⟩)]) (own_if (ds' := rowsD (kp ++ [t.getD b 0])) (c := true) (fun L => (tr_cmp (ev_name (by walk_at "m mem")) (ev_list evs_nil) (cmp_ne_data (okd_ok (rows_okd _) (by decide)) (okd_ok nil_okd1 (by decide)) (hu L))).eq (by rw [eqv_nil, rowsD_empty, hemp]; rfl)) (fun _ => ?_) (fun q => nomatch q)) ?_
          · refine own_cons (ρ' := [("tray", .list (rowsD t)), ("oldest", .bool o'), ("youngest", .bool y'), ("hour", .int h), ("comers", .list (natsD cm)), ("side", .int side), ("picks", .int picks), ("end", .str ⟨e.toArray⟩), ("best", .int (b : Nat))]) (own_ex fun L => ⟨_, ex_assign (d := .int (b : Nat)) ?_ ((I.also L).sto _ (by kernel_rfl)) (swaps_of (I.also L).scp (by with_unfolding_all rfl)), by walk_at "m sub"⟩) ?_
            · refine ev_if (c := side == 0) ((tr_cmp (ev_name (by walk_at "m mem")) ev_int cmp_eq_int).eq rfl) (fun q => ?_) fun q => ?_
              · refine (pick8_ev (k := h) (picks := picks) (n := t.length) (by omega) hn0 (ev_name (by walk_at "m mem")) (ev_name (by walk_at "m mem")) ((ev_callB (ev_bi G m2 B bi.len (I.also L).scp (by kernel_rfl)) (evs_cons (ev_name (by walk_at "m mem")) evs_nil) (bi_len_list (by omega))).eq (by rw [hrl]))).eq ?_
                unfold pickOf at hbe
                rw [if_pos (beq_iff_eq.mp q)] at hbe
                have := Int.fmod_nonneg_of_pos (picks.fdiv (8 ^ h)) (b := (t.length : Int)) (by omega)
                rw [← hbe, Int.toNat_of_nonneg this]
              · unfold pickOf at hbe
                rw [if_neg (fun z => by rw [z] at q; cases q)] at hbe
                rw [← hbe]
                exact ev_callK KX (ev_glob G g2 (I.also L).scp (by kernel_rfl)) (by kernel_rfl) (evs_cons (ev_name (by walk_at "m mem")) (evs_cons (ev_name (by walk_at "m mem")) evs_nil)) (best_fn KX lim G B bi t side hn0 (by omega)) ((I.also L).room)
            refine own_cons (ρ' := [("tray", .list (rowsD t)), ("oldest", .bool o'), ("youngest", .bool y'), ("hour", .int h), ("comers", .list (natsD cm)), ("side", .int side), ("picks", .int picks), ("end", .str ⟨e.toArray⟩), ("best", .int (b : Nat)), ("signs", .list (t.flatMap fun x => [D.int (cmpR x (t.getD b 0))]))]) (own_ex fun L => ⟨_, ex_comp (src := .list (rowsD t)) t (fun d => .str (rowS d)) (fun x => [D.int (cmpR x (t.getD b 0))]) (I.also L).scp (by kernel_rfl) (ev_name (by walk_at "m mem")) (.list _) ?_ ?_ ((I.also L).sto _ (by kernel_rfl)) (swaps_of (I.also L).scp (by with_unfolding_all rfl)), by walk_at "m sub"⟩) ?_
            · rw [flat_one, List.length_map, sizeLine_eq]; omega
            · intro d hd Cc J
              have hr : Room Cc.A 1 := by rw [J.A]; exact I.room.less (by decide)
              exact turn_all (asg_name (J.sto _ (by kernel_rfl))) (cap_put (by kernel_rfl)) ((ev_callK KX (ev_glob G g1 J.scp (by kernel_rfl)) (by kernel_rfl) (evs_cons (ev_name (by walk_at "m mem")) (evs_cons (ev_item_list (ev_name (by walk_at "m mem")) (ev_name (by walk_at "m mem")) (by omega) (by omega) (rowsD_get hb)) evs_nil)) (strcoll_fn KX lim _ _) hr).eq (congrArg D.int (cmp_row _ _)))
            have hsg : (t.flatMap fun x => [D.int (cmpR x (t.getD b 0))]) = (t.map fun x => cmpR x (t.getD b 0)).map D.int := by rw [flat_one, List.map_map]; rfl
            have hself : (((t.map fun x => cmpR x (t.getD b 0)).map D.int))[(b : Int).toNat]? = some (.int 0) := by
              rw [Int.toNat_natCast, List.getElem?_map, List.getElem?_map, List.getElem?_eq_getElem hb, List.getD_eq_getElem?_getD, List.getElem?_eq_getElem hb]
              show some (D.int (cmpR t[b] t[b])) = _
              unfold cmpR; simp
            rw [hsg]
            refine own_cons (ρ' := [("tray", .list (rowsD t)), ("oldest", .bool (o' && !t.any fun x => decide (t.getD b 0 < x))), ("youngest", .bool (y' && !t.any fun x => decide (x < t.getD b 0))), ("hour", .int h), ("comers", .list (natsD cm)), ("side", .int side), ("picks", .int picks), ("end", .str ⟨e.toArray⟩), ("best", .int (b : Nat)), ("signs", .list ((t.map fun x => cmpR x (t.getD b 0)).map D.int))]) (own_ex fun L => ⟨_, ex_swap2 (x := "oldest") (y := "youngest") (a := .bool (o' && !t.any fun x => decide (t.getD b 0 < x))) (b := .bool (y' && !t.any fun x => decide (x < t.getD b 0)))
              (ev_tuple (evs_cons ((ev_and2 (ev_name (by walk_at "m mem")) fun _ => ev_cmp (ev_neg ev_int) (ev_name (by walk_at "m mem")) (cmp_notin (I.also L).room)).eq (by rw [sign_old])) (evs_cons ((ev_and2 (ev_name (by walk_at "m mem")) fun _ => ev_cmp ev_int (ev_name (by walk_at "m mem")) (cmp_notin (I.also L).room)).eq (by rw [sign_young])) evs_nil)) (by show 2 ≤ sizeLine; decide))
              ((I.also L).sto _ (by kernel_rfl)) ((I.also L).sto _ (by kernel_rfl)) (swapsSole_of (I.also L).scp (by with_unfolding_all rfl)) (swapped_of (I.also L).scp (by with_unfolding_all rfl)), by walk_at "m sub"⟩) ?_
            refine own_cons (ρ' := [("tray", .list (rowsD t)), ("oldest", .bool (o' && !t.any fun x => decide (t.getD b 0 < x))), ("youngest", .bool (y' && !t.any fun x => decide (x < t.getD b 0))), ("hour", .int h), ("comers", .list (natsD cm)), ("side", .int side), ("picks", .int picks), ("end", .str ⟨e.toArray⟩), ("best", .int (b : Nat)), ("signs", .list ((t.map fun x => cmpR x (t.getD b 0)).map D.int))]) (ds' := rowsD (kp ++ [t.getD b 0])) ?_ ?_
            · have ek : rowsD (kp ++ [t.getD b 0]) = rowsD kp ++ [.str (rowS (t.getD b 0))] := by unfold rowsD; rw [List.map_append]; rfl
              rw [ek]
              exact own_app (fun L => ev_if (c := true) ((tr_cmp (ev_item_list (ev_name (by walk_at "m mem")) (ev_name (by walk_at "m mem")) (by omega) (by omega) hself) ev_int cmp_eq_int).eq rfl) (fun _ => ev_item_list (ev_name (by walk_at "m mem")) (ev_name (by walk_at "m mem")) (by omega) (by omega) (rowsD_get hb)) fun q => nomatch q) (by unfold rowsD; rw [List.length_map]; omega) (hi := interactive_of I.scp (by with_unfolding_all rfl)) (hs := swaps_of I.scp (by with_unfolding_all rfl))
            refine own_cons (ρ' := [("tray", .list (rowsD t)), ("oldest", .bool (o' && !t.any fun x => decide (t.getD b 0 < x))), ("youngest", .bool (y' && !t.any fun x => decide (x < t.getD b 0))), ("hour", .int h), ("comers", .list (natsD cm)), ("side", .int side), ("picks", .int picks), ("end", .str ⟨e.toArray⟩), ("best", .int (b : Nat)), ("rest", .list (rowsD (t.eraseIdx b)))]) (own_ex fun L => ⟨_, ex_assign (d := .list (rowsD (t.eraseIdx b))) ((ev_bin (ev_slice_list (a := none) (b := some (b : Nat)) (ev_name (by walk_at "m mem")) part_none (part_some (ev_name (by walk_at "m mem"))) (by rw [hrl, sizeLine_eq]; omega)) (ev_slice_list (a := some ((b : Int) + 1)) (b := none) (ev_name (by walk_at "m mem")) (part_some (ev_bin (ev_name (by walk_at "m mem")) ev_int bin_add_int)) part_none (by rw [hrl, sizeLine_eq]; omega)) (bin_list_add (by
              have := sliceL_length (rowsD t) none (some (b : Int)); have := sliceL_length (rowsD t) (some ((b : Int) + 1)) none
              rw [sizeLine_eq]; omega))).eq (by rw [slice_erase _ _ (by rw [hrl]; exact hb), rows_erase])) ((I.also L).sto _ (by kernel_rfl)) (swaps_of (I.also L).scp (by with_unfolding_all rfl)), by walk_at "m sub"⟩) ?_
            refine own_cons (own_ex fun L => ⟨_, ex_assign (d := .list (rowsD ((t.eraseIdx b).map (· + 1)))) ?_ ((I.also L).sto _ (by kernel_rfl)) (swaps_of (I.also L).scp (by with_unfolding_all rfl)), by walk_at "m sub"⟩) own_nil
            generalize hR : t.eraseIdx b = R at *
            have hRl : R.length ≤ 8 := by omega
            have hpl : (pageL e R).length ≤ 300 := by
              have := page_len e R 20 (fun d hd => by have := her d hd; omega)
              have := end_len he
              have h3 : R.length * (20 + 1 + e.length) ≤ 8 * 23 := Nat.mul_le_mul hRl (by omega)
              omega
            have hpl2 : (pageL [13, 10] (R.map (· + 1))).length ≤ 300 := by
              have := page_len [13, 10] (R.map (· + 1)) 21 (fun d hd => by
                obtain ⟨d', hd', rfl⟩ := List.mem_map.mp hd
                have := her d' hd'; omega)
              have h3 : (R.map (· + 1)).length * (21 + 1 + ([13, 10] : List Nat).length) ≤ 8 * 24 := Nat.mul_le_mul (by rw [List.length_map]; exact hRl) (by decide)
              omega
            have hcomp : (R.flatMap fun d => [D.str (rowS d ++ ⟨e.toArray⟩)]) = (R.map fun d => (rowS d ++ ⟨e.toArray⟩ : Str)).map D.str := by rw [flat_one, List.map_map]; rfl
            have hfl : ((R.map fun d => (rowS d ++ ⟨e.toArray⟩ : Str)).flatMap (·.cps.toList)) = pageL e R := by
              unfold pageL
              rw [List.flatMap_map]
              congr 1
              funext d
              show ((rowL d).toArray ++ e.toArray).toList = _
              simp
            refine (ev_slice_list (a := none) (b := some (-1)) (ds := (R.map (· + 1)).map (fun d => D.str (rowS d)) ++ [.str ⟨#[]⟩])
              ((ev_methS (x := ⟨(pageL [13, 10] (R.map (· + 1))).toArray⟩)
                ((ev_callK KX (ev_glob G g3 (I.also L).scp (by kernel_rfl)) (by kernel_rfl) (evs_cons
                  ((ev_methS (x := ⟨#[]⟩) ev_str (evs_cons ((ev_comp (src := .list (rowsD R)) R (fun d => .str (rowS d)) (fun d => [D.str (rowS d ++ ⟨e.toArray⟩)]) (I.also L).scp (by kernel_rfl) (ev_name (by walk_at "m mem")) (.list _) ?_ ?_).eq (congrArg D.list hcomp)) evs_nil) F.slot_str_join F.type_str_join (bi_join (joinOk_list _ (by rw [hfl]; omega)))).eq (congrArg D.str (join_page R)))
                  evs_nil) (quotedata_fn KX lim G _ (by show (pageL e R).toArray.size ≤ 400; rw [List.size_toArray]; omega)) ((I.also L).room.less (by decide))).eq (congrArg D.str (quoted_page he fun d hd => (her d hd).1)))
                (evs_cons (ev_str (x := ⟨#[13, 10]⟩)) evs_nil) F.slot_str_split F.type_str_split (bi_split (by rfl) ?_ ?_)).eq ?_) part_none (part_some (ev_neg ev_int)) ?_).eq ?_
            · rw [flat_one, List.length_map, sizeLine_eq]; omega
            · intro d hd Cc J
              have hd := her d hd
              refine turn_all (asg_name (J.sto _ (by kernel_rfl))) (cap_put (by kernel_rfl)) (ev_bin (ev_name (by walk_at "m mem")) (ev_name (by walk_at "m mem")) (bin_add_str ?_))
              show (rowL d).toArray.size + e.toArray.size ≤ sizeLine
              have := end_len he
              rw [List.size_toArray, List.size_toArray, rowS_len, sizeLine_eq]; omega
            · show (pageL [13, 10] (R.map (· + 1))).toArray.size ≤ sizeLine
              rw [List.size_toArray, sizeLine_eq]; omega
            · rw [parts_len, List.length_map, sizeLine_eq]; omega
            · rw [split_page, List.map_append, List.map_map]; rfl
            · rw [List.length_append, List.length_map, List.length_map, sizeLine_eq]; simp only [List.length_cons, List.length_nil]; omega
            · rw [sliceL_last, List.dropLast_concat]; rfl
          · refine (own_cons (ρ' := [("tray", .list (rowsD ((t.eraseIdx b).map (· + 1)))), ("oldest", .bool (o' && !t.any fun x => decide (t.getD b 0 < x))), ("youngest", .bool (y' && !t.any fun x => decide (x < t.getD b 0))), ("hour", .int ((h : Int) + 1)), ("comers", .list (natsD cm)), ("side", .int side), ("picks", .int picks), ("end", .str ⟨e.toArray⟩)]) (own_ex fun L => ⟨_, ex_aug (by walk_at "m mem") ev_int ((I.also L).sto _ (by kernel_rfl)) iadd, by walk_at "m sub"⟩) own_nil).less ?_
            rw [show (h : Int) + 1 = ((h + 1 : Nat) : Int) by omega]
            unfold runV
            walk_at "m sub"
      · rename_i hq
        cases hr
        rw [Bool.not_eq_true] at hq
        exact OwhD.less (owh_done (fun L => (tr_or2 ((tr_cmp (ev_name (by unfold runV; walk_at "m mem")) ev_int cmp_lt_int).eq (d' := decide (h < 4)) (decide_eq_decide.mpr (by omega))) fun _ => (tr_cmp (ev_name (by unfold runV; walk_at "m mem")) (ev_list evs_nil) (cmp_ne_data (okd_ok (rows_okd _) (by decide)) (okd_ok nil_okd1 (by decide)) (hu L))).eq (d' := !tr.isEmpty) (by rw [eqv_nil, rowsD_empty])).eq hq)) (by unfold runV; walk_at "m sub")
end
end Mine

set_option Elab.async false
set_option linter.unusedVariables false
set_option linter.unusedSimpArgs false
set_option maxRecDepth 100000
namespace Mine

section
variable {prog : Program} {w : World} {h₀ : Heap} {mg mb : Str → Option Value} {C : Cx} {ρ ρ' : Vs} {x : Str} {ds ms : List D}

theorem add_new {A : Around} {s : Shared} {a b : Addr} {vs ws : List Value} {n k : Nat} {Q : Value → Shared → Prop} {E : Value → Shared → Prop} (ho : s.heap.get? a = some (listObj vs n)) (ho2 : s.heap.get? b = some (listObj ws k)) (hsz : vs.length + ws.length ≤ 10000)
    (h : Q (.ref s.heap.objs.size) { s with heap := s.heap.push (listObj (vs ++ ws) 0) }) : wpAny (model prog w) A (binaryOp .Add (.ref a) (.ref b)) Q E s := by
  refine concat_meets ⟨_, ho, rfl⟩ ⟨_, ho2, rfl⟩ noFill_list_add seq_list_add PySem.F.slot_list_add PySem.F.entry_list_add (PySem.F.args_list_add_2 _ _) (list_addW a b vs.toArray ws.toArray n k none none #[] #[] (by rw [sizeLine_eq]; simp; omega)) ⟨ho, ho2, ?_⟩
  have e : ({ cls := .type "list", data := .seq (vs.toArray ++ ws.toArray) } : Obj) = listObj (vs ++ ws) 0 := by simp [listObj]
  rw [e]
  exact h
/-- x = x + e -/
theorem own_extend {e : Expr} {px p1 p2 pos : Pos} (he : EvD prog w h₀ C ((x, .list ds) :: ρ) e (.list ms)) (hsz : ds.length + ms.length ≤ 1000) (hk : ∀ L, Stores (C.also L) x) (hsub : ∀ L, ∀ p ∈ (x, .raw (.ref L)) :: ρ, p ∈ put ρ x (.raw (.ref L)))
    (hs : swapsWith (.BinOp (.Name x p1) .Add e p2) (some (.Name x px)) pos.line C.env = pure false)
    (hd : (x == ("__debug__" : Str)) = false := by decide +kernel) (hn : (x == ("__classdict__" : Str)) = false := by decide +kernel) :
    Own1 prog w h₀ C x ρ ds (.Assign [.Name x px] (.BinOp (.Name x p1) .Add e p2) pos) ρ (ds ++ ms) := fun L s H => by
  refine wpAny_Assign_Name (wpAny_BinOp ((ev_name (.head _) hd hn : EvD prog w h₀ C ((x, .list ds) :: ρ) (.Name x p1) (.list ds)).then H.plain fun va s₁ k₁ H₁ i₁ => he.then H₁ fun vb s₂ k₂ H₂ i₂ => ?_)) hs
  have i₁ := i₁.keeps k₂
  obtain ⟨a, vs, n, rfl, ha, ho, hvs⟩ := i₁.list_inv
  obtain ⟨b, ws, k, rfl, hb, ho2, hws⟩ := i₂.list_inv
  have hl1 := hvs.length
  have hl2 := hws.length
  refine add_new ho ho2 (by omega) ?_
  have S := (H₂.sub fun p hp => List.mem_cons_of_mem _ hp : Sat h₀ C ρ s₂).also (listObj (vs ++ ws) 0) rfl
  generalize hL' : s₂.heap.objs.size = L' at S ⊢
  have nL2 : s₂.heap.get? L' = none := hL' ▸ get_none_of_le (Nat.le_refl _)
  have nX : ¬ C.X L' := hL' ▸ H₂.fresh
  have n0 : h₀.get? L' = none := hL' ▸ H₂.old0 (Nat.le_refl _)
  have kp := keeps_push s₂ (listObj (vs ++ ws) 0)
  refine wpAny_mono (store_name (C := C.also L') (d := .raw (.ref L')) (hk L') S (.raw _)) (fun _ s₃ z => ?_) fun _ _ z => z.elim
  have kall : KeepsW C.W s s₃ := keepsW_trans (keepsW_of (keeps_trans k₁ (keeps_trans k₂ kp))) z.1
  have wL' : ¬ C.W L' := fun q => nX (H.good.sub _ q)
  refine ⟨rfl, L', ⟨H.good, nX, n0, z.2.sub (hsub L'), ?_⟩, keepsW_mono (fun a q => .inl q) kall, .inr ?_, wL'⟩
  · have F : Fills (C.also L') L' (ds ++ ms) (s₂.heap.push (listObj (vs ++ ws) 0)) := by
      refine ⟨vs ++ ws, 0, ?_, ?_⟩
      · rw [← hL']; exact Heap.get?_push_size _ rfl
      · exact ((hvs.append hws).more (Y := (C.also L').X) fun a q => q.elim .inl fun q => .inr (q ▸ nL2)).keeps kp
    exact F.keepsW (s := { s₂ with heap := s₂.heap.push (listObj (vs ++ ws) 0) }) z.1 wL' fun a q => .inl (H.good.sub a q)
  · cases e : s.heap.get? L' with
    | none => rfl
    | some o => rw [keeps_get (keeps_trans k₁ k₂) e] at nL2; cases nL2
theorem set_exact {A : Around} {s : Shared} {l : Addr} {vs : List Value} {n : Nat} {k : Int} {j : Nat} {t : Tok} {v : Value} {Q : Unit → Shared → Prop} {E : Value → Shared → Prop} (ho : s.heap.get? l = some (listObj vs n)) (hkj : k = j) (hk : j < vs.length) (hfit : j < 1000)
    (hQ : ∀ h' n', h'.get? l = some (listObj (vs.set j v) n') → Heap.SameBut l s.heap h' → Q () { s with heap := h' }) : wpAny (model prog w) A (setItem (.ref l) (.int k t) v) Q E s := by
  have hl := isList_of ho
  unfold setItem
  try with_reducible refine wpAny_holding ?_
  first | refine wpAny_bind (wpAny_pure ?_) | skip
  refine wpAny_bind (wpAny_sequenceKey hl.typeIs (by decide) ?_)
  refine wpAny_bind (wpAny_callSpecial?_slot (name := Str.ofString "__setitem__") hl.typeIs slot_list_setitem
    (wpAny_call_entry slot_list_setitem hl.typeIs entry_list_setitem ?_ (args_list_setitem _ _ _)))
  show wpAny _ _ (Builtin.List.listSubscript? (.int k t) >>= _) _ _ s
  refine wpAny_bind (wpAny_listSubscript_int (fitsIndex_of (by omega) (by omega)) ?_)
  subst hkj
  clear hfit
  have hx' : vs.toArray[j]? = some vs[j] := by rw [List.getElem?_toArray, List.getElem?_eq_getElem hk]
  show wpAny _ _ ((seqItemAt l j >>= fun r => pure (r.map (j, ·))) >>= _) _ _ s
  refine wpAny_bind (wpAny_bind (wpAny_seqItemAt ho rfl (wpAny_pure ?_)))
  rw [hx']
  show wpAny _ _ (setSeqItemAt l j v >>= _) _ _ s
  have hm : Obj.mapSeq (·.setIfInBounds j v) (listObj vs n) = listObj (vs.set j v) n := by
    simp [Obj.mapSeq, listObj]
  have hfin := Heap.get?_update_self (Obj.mapSeq (·.setIfInBounds j v)) ho (by rw [hm]; rfl)
  rw [hm] at hfin
  refine wpAny_bind (wpAny_setSeqItemAt ho rfl ?_)
  first
    | exact wpAny_bind (wpAny_pure (wpAny_pure ⟨.none, rfl, wpAny_pure (hQ _ _ hfin (Heap.SameBut.update ..))⟩))
    | exact wpAny_pure ⟨.none, rfl, wpAny_pure (hQ _ _ hfin (Heap.SameBut.update ..))⟩
end
end Mine

set_option Elab.async false
set_option linter.unusedVariables false
set_option linter.unusedSimpArgs false
set_option maxRecDepth 100000
set_option maxHeartbeats 4000000
namespace Mine

theorem IsAll.set {X : Addr → Prop} {h : Heap} : ∀ {vs : List Value} {ds : List D}, IsAll X h vs ds → ∀ {v : Value} {d : D}, Is X h v d → ∀ j : Nat, IsAll X h (vs.set j v) (ds.set j d)
  | _, _, .nil, v, d, i, j => .nil
  | _, _, .cons a r, v, d, i, 0 => .cons i r
  | _, _, .cons a r, v, d, i, j + 1 => .cons a (IsAll.set r i j)

section
variable {prog : Program} {w : World} {h₀ : Heap} {mg mb : Str → Option Value} {C : Cx} {ρ ρ' ρ'' : Vs} {x : Str} {ds ds' ds'' ms : List D} {K : Frag} {c : Addr}

/-- x[y] = e -/
theorem own_set {y : Str} {e : Expr} {p1 p2 p3 pos : Pos} {m : Int} {j : Nat} (he : EvD prog w h₀ C ((x, .list ds) :: ρ) e (.int m)) (hy : ∀ L, EvD prog w h₀ (C.also L) ((x, .raw (.ref L)) :: ρ) (.Name y p2) (.int j)) (hj : j < ds.length) (hl : ds.length ≤ 500)
    (hs : swapsWith e (some (.Subscript (.Name x p1) (.Name y p2) p3)) pos.line C.env = pure false)
    (hd : (x == ("__debug__" : Str)) = false := by decide +kernel) (hn : (x == ("__classdict__" : Str)) = false := by decide +kernel) :
    Own1 prog w h₀ C x ρ ds (.Assign [.Subscript (.Name x p1) (.Name y p2) p3] e pos) ρ (ds.set j (.int m)) := fun L s H => by
  refine wpAny_Assign_Subscript (he.then H.plain fun v s₁ k₁ H₁ i₁ => ?_) hs
  obtain ⟨t, rfl⟩ := i₁.int_inv
  have O₁ := H.keeps k₁
  have hname : EvV prog w h₀ (C.also L) ((x, .raw (.ref L)) :: ρ) (.Name x p1) (.ref L) := ev_rawName (ev_name (.head _) hd hn)
  refine hname.then (C := C.also L) O₁.sat fun s₂ k₂ S₂ => (hy L).then (C := C.also L) S₂ fun iv s₃ k₃ S₃ i₃ => ?_
  obtain ⟨u, rfl⟩ := i₃.int_inv
  have O₃ := (O₁.keeps k₂).keeps k₃
  obtain ⟨vs, n, ho, hall⟩ := O₃.fil
  refine set_exact ho rfl (by rw [hall.length]; exact hj) (by omega) fun h' n' e' hs' => ?_
  have kw : KeepsW (· = L) s₃ { s₃ with heap := h' } := ⟨h', _, rfl, Nat.le_refl _, fun b o nb eb => (hs'.2 b nb).trans eb⟩
  refine ⟨rfl, L, ⟨H.good, H.nx, H.n0, O₃.sat.other ho (fun _ _ q => by cases q) (fun _ q => by cases q) (.inr rfl) H.n0 kw ⟨_, e'⟩, vs.set j (.int m t), n', e', ?_⟩, ?_, .inl rfl, H.wL⟩
  · exact (hall.keepsW kw fun a q => .inr q).set (.int _ _) j
  · exact keepsW_trans (keepsW_of (keeps_trans k₁ (keeps_trans k₂ k₃))) (keepsW_mono (fun a q => .inr q) kw)
theorem own_for_at {L : Addr} {s : Shared} {y : Str} {py pos : Pos} {iter : Expr} {body : List Stmt} {src : D} {items : List D} (H : OwnAt h₀ C L x ρ ds s) (hs : wpAny (model prog w) C.A (eval iter C.env) (fun v s' => Keeps s s' ∧ ∀ X, Is X s'.heap v src) no s) (hi : IterF src items) (h : OforD prog w h₀ C x ρ ds (.Name y py) body items ρ' ds')
    (hfold : ∀ env x, foldedSetIterable iter env x = pure x := by intro _ _; rfl) : wpAny (model prog w) C.A (exec (.For (.Name y py) iter body [] pos) C.env) (fun f s' => f = .next ∧ ∃ L', OwnAt h₀ C L' x ρ' ds' s' ∧ Rel C L L' s s') no s := by
  refine wpAny_For (wpAny_mono hs (fun v s₁ z => ?_) fun _ _ z => z) (hfold _)
  obtain ⟨k₁, i₁⟩ := z
  have S₁ := H.sat.keeps k₁
  have H₁ := H.keeps k₁
  refine wpAny_mono (iter_F (prog := prog) (w := w) H.good.hh hi (i₁ fun _ => False)) (fun it s₂ z => ?_) fun _ _ z => z.elim
  obtain ⟨rfl, ⟨ob, hof, rfl⟩, T⟩ := z
  have T := T C.A H.good.hh
  generalize hI : s₁.heap.objs.size = I at T ⊢
  have nI : s₁.heap.get? I = none := hI ▸ get_none_of_le (Nat.le_refl _)
  have nX : ¬ C.X I := fun q => by
    obtain ⟨o, e⟩ := S₁.alloc I (.inl q)
    rw [nI] at e; cases e
  have hLI : L ≠ I := fun q => by
    obtain ⟨o, e⟩ := S₁.alloc L (.inr rfl)
    rw [q, nI] at e; cases e
  have n0 : h₀.get? I = none := hI ▸ S₁.old0 (Nat.le_refl _)
  have H₂ : OwnAt h₀ (C.also I) L x ρ ds { s₁ with heap := s₁.heap.push ob } := by
    have S₂ := S₁.also ob hof
    rw [hI] at S₂
    refine ⟨H.good.also I, fun q => q.elim H.nx hLI, H.n0, Sat.swap H.good S₂, ?_⟩
    obtain ⟨vs, n, e, i⟩ := H₁.fil
    refine ⟨vs, n, Heap.get?_push_of_some _ e, (i.more (Y := ((C.also I).also L).X) fun a q => ?_).mono fun b o nb e => ⟨nb, Heap.get?_push_of_some _ e⟩⟩
    rcases q with (q | q) | q
    · exact .inl (.inl q)
    · exact .inr (q ▸ nI)
    · exact .inl (.inr q)
  refine codeAny_mono (h I L _ H.good H₂ n0 nX T) fun r s' z => ?_
  obtain ⟨rfl, L', H', r'⟩ := z
  refine ⟨rfl, L', H', ?_⟩
  obtain ⟨⟨h1, t1, e1, l1, kk1⟩, f1, w1⟩ := r'
  obtain ⟨h0', t0, e0, l0, kk0⟩ := k₁
  subst e0
  subst e1
  refine ⟨⟨h1, t1, rfl, Nat.le_trans l0 l1, fun b o nb e => kk1 b o ?_ (Heap.get?_push_of_some _ (kk0 b o e))⟩, ?_, fun q => w1 (.inl q)⟩
  · rintro ((q | q) | q)
    · exact nb (.inl q)
    · have e2 := kk0 b o e
      rw [q, show h0'.get? I = none from nI] at e2; cases e2
    · exact nb (.inr q)
  · rcases f1 with f1 | f1
    · exact .inl f1
    · refine .inr ?_
      cases e : s.heap.get? L' with
      | none => rfl
      | some o =>
        have := Heap.get?_push_of_some ob (kk0 L' o e)
        rw [show (h0'.push ob).get? L' = none from f1] at this; cases this
theorem own_keeps {L L' : Addr} {s s₁ s' : Shared} (k : KeepsW C.W s s₁) (nL : s.heap.get? L = none) (r : Rel C L L' s₁ s') : KeepsW C.W s s' ∧ s.heap.get? L' = none := by
  obtain ⟨h1, t1, e1, l1, kk1⟩ := k
  obtain ⟨⟨h2, t2, e2, l2, kk2⟩, f, w1⟩ := r
  subst e1
  refine ⟨⟨h2, t2, e2, Nat.le_trans l1 l2, fun b o nb e => kk2 b o ?_ (kk1 b o nb e)⟩, ?_⟩
  · rintro (q | q)
    · exact nb q
    · rw [q, nL] at e; cases e
  · rcases f with f | f
    · rw [f]; exact nL
    · cases e : s.heap.get? L' with
      | none => rfl
      | some o =>
        have := kk1 L' o w1 e
        rw [show h1.get? L' = none from f] at this; cases this
/-- a new list goes to a name -/
theorem new_list {px p pos : Pos} (hk : ∀ L, Stores (C.also L) x) (hsub : ∀ L, ∀ p ∈ (x, .raw (.ref L)) :: ρ', p ∈ put ρ x (.raw (.ref L))) (hs : swapsWith (.List [] p) (some (.Name x px)) pos.line C.env = pure false) : OwnNew prog w h₀ C ρ (.Assign [.Name x px] (.List [] p) pos) x ρ' := fun s H => by
  refine wpAny_Assign_Name (wpAny_List (wpAny_items_nil ⟨by decide, ?_⟩)) hs
  have S := H.also { cls := .type "list", data := .seq ([] : List Value).toArray } rfl
  have nX := H.fresh
  have n0 := H.old0 (Nat.le_refl _)
  have nL : s.heap.get? s.heap.objs.size = none := get_none_of_le (Nat.le_refl _)
  have kp := keeps_push s { cls := .type "list", data := .seq ([] : List Value).toArray }
  refine wpAny_mono (store_name (C := C.also s.heap.objs.size) (d := .raw (.ref s.heap.objs.size)) (hk _) S (.raw _)) (fun _ s₁ z => ?_) fun _ _ z => z.elim
  refine ⟨rfl, keepsW_trans (keepsW_of kp) z.1, s.heap.objs.size, ⟨H.good, nX, n0, z.2.sub (hsub _), ?_⟩, nL⟩
  have F : Fills (C.also s.heap.objs.size) s.heap.objs.size [] ({ s with heap := s.heap.push { cls := .type "list", data := .seq ([] : List Value).toArray } } : Shared).heap := ⟨[], 0, Heap.get?_push_size _ rfl, .nil⟩
  exact F.keepsW z.1 (fun q => nX (H.good.sub _ q)) fun a q => .inl (H.good.sub a q)
/-- a body of __init__ that fills a list of its own in a loop over an attribute -/
theorem ini_own {xo dx : Addr} {ns ns' : List Str} {vs vs' : List D} {st1 st2 : Stmt} {y : Str} {py pos : Pos} {iter : Expr} {body rest : List Stmt} {src : Str} (o : Owns h₀ C xo dx) (hn : OwnNew prog w h₀ C ρ st1 x ρ') (h2 : Own1 prog w h₀ C x ρ' [] st2 ρ'' ds)
    (hs : ∀ s ρ, Sat h₀ C ρ s → (∀ p ∈ ρ'', p ∈ ρ) → InstS C c xo dx ns vs s → wpAny (model prog w) C.A (eval iter C.env) (fun v s' => Keeps s s' ∧ Is C.X s'.heap v (.str src)) no s)
    {ρ3 : Vs} {items : List D} (hi : IterF (.str src) items) (h3 : OforD prog w h₀ C x ρ'' ds (.Name y py) body items ρ3 ds') (hr : IniD prog w h₀ C c xo dx ((x, .list ds') :: ρ3) ns vs rest ns' vs')
    (hfold : ∀ env x, foldedSetIterable iter env x = pure x := by intro _ _; rfl) : IniD prog w h₀ C c xo dx ρ ns vs (st1 :: st2 :: .For (.Name y py) iter body [] pos :: rest) ns' vs' := fun s H i => by
  refine wpAny_execs_cons (wpAny_mono (hn s H) (fun f s₁ z => ?_) fun _ _ z => z)
  obtain ⟨rfl, k₁, L, H₁, nL⟩ := z
  refine wpAny_execs_cons (wpAny_mono (h2 L s₁ H₁) (fun f s₂ z => ?_) fun _ _ z => z)
  obtain ⟨rfl, L₂, H₂, r₂⟩ := z
  obtain ⟨k₂, nL₂⟩ := own_keeps k₁ nL r₂
  have i₂ := i.keepsW H.good o k₂
  refine wpAny_execs_cons (wpAny_mono (own_for_at H₂ (wpAny_mono (hs s₂ _ H₂.plain (fun p hp => .tail _ hp) i₂) (fun v s' z => ⟨z.1, fun X => by obtain ⟨t, rfl⟩ := z.2.str_inv; exact .str _ _⟩) fun _ _ z => z) hi h3 hfold) (fun f s₃ z => ?_) fun _ _ z => z)
  obtain ⟨rfl, L₃, H₃, r₃⟩ := z
  obtain ⟨k₃, nL₃⟩ := own_keeps k₂ nL₂ r₃
  exact wpAny_mono (hr s₃ H₃.plain (i.keepsW H.good o k₃)) (fun f s₄ z => ⟨z.1, keepsW_trans (keepsW_mono (fun a q => .inr q) k₃) z.2.1, z.2.2⟩) fun _ _ z => z
end
end Mine

set_option Elab.async false
set_option linter.unusedVariables false
set_option linter.unusedSimpArgs false
set_option maxRecDepth 100000
set_option maxHeartbeats 4000000
namespace Mine
open PySem.Challenge

local macro_rules | `(tactic| walk_at "m mem") => `(tactic| first
  | with_reducible exact put_head
  | with_reducible exact List.mem_cons_self
  | (with_reducible apply put_tail (h := by decide +kernel); walk_at "m mem")
  | (with_reducible refine List.mem_cons_of_mem _ ?_; walk_at "m mem")
  | (with_reducible refine cap_mem (by kernel_rfl) ?_; walk_at "m mem"))
local macro_rules | `(tactic| walk_at "m sub") => `(tactic| first
  | with_reducible exact allIn_nil
  | (with_reducible refine allIn_cons (by walk_at "m mem") ?_; walk_at "m sub"))

/-! blanks and tabs -/
structure WS where
  cnt : List Nat
  b : Nat
  n : Nat
  nt : Nat
def cntFill (cnt : List Nat) (b : Nat) : List Nat := if cnt.length ≤ b then cnt ++ List.replicate (b - cnt.length + 1) 0 else cnt
def cntUp (cnt : List Nat) (b : Nat) : List Nat := (cntFill cnt b).set b ((cntFill cnt b).getD b 0 + 1)
def wsRun : List Nat → WS → WS
  | [], s => s
  | ch :: r, s => wsRun r (if ch = 32 then ⟨s.cnt, s.b + 1, s.n + 1, s.nt⟩ else ⟨cntUp s.cnt s.b, 0, s.n + 1, s.nt + 1⟩)
def wsOf (l : List Nat) : WS := wsRun l ⟨[], 0, 0, 0⟩
def wsNames : List Str := ["raw", "n", "nt", "norm", "is_simple"]
def wsVals (l : List Nat) : List D := [.str ⟨l.toArray⟩, .int (wsOf l).n, .int (wsOf l).nt, .tup [.tup (natsD (wsOf l).cnt), .int (wsOf l).b], .bool (decide ((wsOf l).cnt.length ≤ 1))]
theorem cntFill_len (cnt : List Nat) (b : Nat) : b < (cntFill cnt b).length ∧ (cntFill cnt b).length ≤ max cnt.length (b + 1) := by
  unfold cntFill
  split
  · rw [List.length_append, List.length_replicate]; omega
  · omega
theorem wsRun_len : ∀ (l : List Nat) (s : WS) (B : Nat), s.cnt.length ≤ B → s.b + l.length + 1 ≤ B → (wsRun l s).cnt.length ≤ B
  | [], s, B, h, _ => h
  | ch :: r, s, B, h, hb => by
    rw [List.length_cons] at hb
    unfold wsRun
    split
    · exact wsRun_len r _ B h (by show s.b + 1 + _ + 1 ≤ B; omega)
    · refine wsRun_len r _ B ?_ (by show 0 + _ + 1 ≤ B; omega)
      have := (cntFill_len s.cnt s.b).2
      show (cntUp s.cnt s.b).length ≤ B
      unfold cntUp
      rw [List.length_set]; omega
theorem natsD_set (l : List Nat) (j m : Nat) : (natsD l).set j (.int m) = natsD (l.set j m) := by unfold natsD; rw [List.map_set]

section
variable {prog : Program} {w : World} {h₀ : Heap} {mg mb : Str → Option Value} {C : Cx} {ρ : Vs}

theorem own_ifP {x : Str} {ds ds' : List D} {ρ' : Vs} {t : Expr} {body orelse : List Stmt} {pos : Pos} {c : Bool} (ht : TrD prog w h₀ C ((x, .list ds) :: ρ) t c) (ha : c = true → OwnD prog w h₀ C x ρ ds body ρ' ds') (hb : c = false → OwnD prog w h₀ C x ρ ds orelse ρ' ds') : Own1 prog w h₀ C x ρ ds (.If t body orelse pos) ρ' ds' := fun L s H => by
  refine wpAny_If (ht.then H.plain fun s₁ k₁ _ => ?_)
  have r1 : Rel C L L s s₁ := (Rel.refl s H.wL).keeps (keepsW_of k₁)
  cases c with
  | true => exact wpAny_mono (ha rfl L s₁ (H.keeps k₁)) (fun f s₂ z => by obtain ⟨a, L', b, r⟩ := z; exact ⟨a, L', b, r1.trans r⟩) fun _ _ z => z
  | false => exact wpAny_mono (hb rfl L s₁ (H.keeps k₁)) (fun f s₂ z => by obtain ⟨a, L', b, r⟩ := z; exact ⟨a, L', b, r1.trans r⟩) fun _ _ z => z
theorem clsOk2 : ClsOk (KK w) 131 := clsOk

theorem white2_new (KX : (KK w).In h₀) (lim : h₀.NoLimit) (G : h₀.Ns mainGlobals mg) (B : h₀.Ns builtinsNs mb) (bi : Bis mb) (l : List Nat) (hl : ∀ k ∈ l, k = 32 ∨ k = 9) (hsz : l.length ≤ 300) :
    FnD prog w h₀ 131 2 [.str ⟨l.toArray⟩] (.obj 131 wsNames (wsVals l)) := by
  have m1 : mg "Whitespace" = some (.ref 131) := mg_of KX G (by kernel_rfl)
  have m2 : mg "len" = none := mg_none_of KX G (by kernel_rfl)
  have m3 : mg "tuple" = none := mg_none_of KX G (by kernel_rfl)
  refine new_K (n := 0) ["self", "ws"] KX lim (fI := 86) (by kernel_rfl) (by kernel_rfl) (by kernel_rfl) (by kernel_rfl) rfl ?_ ?_
  · intro fd e vs hl
    match vs, hl with
    | [u, v], _ => cases e; rfl
  · intro C x dx I o
    show IniD _ _ _ _ _ _ _ [("self", .raw (.ref x)), ("ws", .str ⟨l.toArray⟩)] _ _ _ _ _
    conv => arg 11; whnf
    refine ini_attr o KX clsOk2 (ev_rawName (ev_name (by walk_at "m mem"))) (ev_name (by walk_at "m mem")) ?_ (by decide +kernel) (by kernel_rfl) (by decide)
    have evS : ∀ {ρ pos pos'}, EvD prog w h₀ C ρ (.Attribute (.Name "Whitespace" pos) "S" pos') (.str ⟨#[32]⟩) := fun {ρ pos pos'} =>
      ev_cattr (v := .str ⟨#[32]⟩ 393) KX (ev_glob G m1 I.scp (by kernel_rfl)) (mc := .type "type") (by kernel_rfl) (by kernel_rfl) rfl (fun _ _ => .str _ _)
    have evT : ∀ {ρ pos pos'}, EvD prog w h₀ C ρ (.Attribute (.Name "Whitespace" pos) "T" pos') (.str ⟨#[9]⟩) := fun {ρ pos pos'} =>
      ev_cattr (v := .str ⟨#[9]⟩ 394) KX (ev_glob G m1 I.scp (by kernel_rfl)) (mc := .type "type") (by kernel_rfl) (by kernel_rfl) rfl (fun _ _ => .str _ _)
    have evLen : ∀ {C : Cx} {ρ : Vs} {l : List Nat} {y : Str} {p1 p2 p3 : Pos}, C.env.scope = scAt (KK w) 86 → (y, D.list (natsD l)) ∈ ρ → l.length ≤ 1000 → (y == ("__debug__" : Str)) = false → (y == ("__classdict__" : Str)) = false →
        EvD prog w h₀ C ρ (.Call (.Name "len" p1) [.Name y p2] [] p3) (.int l.length) := fun {C ρ l y p1 p2 p3} hs hm hl ha hb =>
      (ev_callB (ev_bi G m2 B bi.len hs (by kernel_rfl)) (evs_cons (ev_name hm ha hb) evs_nil) (bi_len_list (by unfold natsD; rw [List.length_map]; omega))).eq (by unfold natsD; rw [List.length_map])
    refine ini_ex o (ex_swap2 (x := "S") (y := "T") (ev_tuple (evs_cons evS (evs_cons evT evs_nil))) (I.sto _ (by kernel_rfl)) (I.sto _ (by kernel_rfl)) (swapsSole_of I.scp (by with_unfolding_all rfl)) (swapped_of I.scp (by with_unfolding_all rfl))) ?_
    refine ini_own (x := "count") (src := ⟨l.toArray⟩) (items := l.map fun c => D.str ⟨#[c]⟩) (ρ' := [("self", .raw (.ref x)), ("S", .str ⟨#[32]⟩), ("T", .str ⟨#[9]⟩)])
      (ρ'' := [("self", .raw (.ref x)), ("S", .str ⟨#[32]⟩), ("T", .str ⟨#[9]⟩), ("b", .int (0 : Nat)), ("n", .int (0 : Nat)), ("nt", .int (0 : Nat))]) (ds := natsD []) (ds' := natsD (wsOf l).cnt)
      (ρ3 := [("self", .raw (.ref x)), ("b", .int (wsOf l).b), ("n", .int (wsOf l).n), ("nt", .int (wsOf l).nt)]) o
      (new_list (fun L => (I.also L).sto _ (by kernel_rfl)) (fun L => by walk_at "m sub") (swaps_of I.scp (by with_unfolding_all rfl)))
      (own_ex fun L => ⟨_, ex_assign3 ev_int ((I.also L).sto _ (by kernel_rfl)) ((I.also L).sto _ (by kernel_rfl)) ((I.also L).sto _ (by kernel_rfl)), by
        change ∀ q ∈ ([("count", .raw (.ref L)), ("self", .raw (.ref x)), ("S", .str ⟨#[32]⟩), ("T", .str ⟨#[9]⟩), ("b", .int 0), ("n", .int 0), ("nt", .int 0)] : Vs), q ∈ (_ : Vs)
        walk_at "m sub"⟩)
      (fun s ρ H hsub i => at_attr (d := .str ⟨l.toArray⟩) H KX clsOk2 i (ev_rawName (ev_name (hsub _ (by walk_at "m mem")))) (by rfl) (by kernel_rfl) (fun u q => nomatch q)) ?_ ?_ ?_
    · have := IterF.str ⟨l.toArray⟩
      rwa [show (⟨l.toArray⟩ : Str).cps.toList = l from by simp] at this
    · suffices go : ∀ (r : List Nat) (s : WS) (B : Nat), (∀ k ∈ r, k = 32 ∨ k = 9) → s.cnt.length ≤ B → s.b + r.length + 1 ≤ B → B ≤ 400 → OforD prog w h₀ C "count" [("self", .raw (.ref x)), ("S", .str ⟨#[32]⟩), ("T", .str ⟨#[9]⟩), ("b", .int s.b), ("n", .int s.n), ("nt", .int s.nt)] (natsD s.cnt) _ _ (r.map fun c => D.str ⟨#[c]⟩)
          [("self", .raw (.ref x)), ("b", .int (wsRun r s).b), ("n", .int (wsRun r s).n), ("nt", .int (wsRun r s).nt)] (natsD (wsRun r s).cnt) from go l ⟨[], 0, 0, 0⟩ (l.length + 1) hl (by simp) (by simp) (by omega)
      intro r
      induction r with
      | nil =>
        intro s B _ _ _ _ J L st G H n0 nX T
        exact codeAny_mono (ofor_nil J L st G H n0 nX T) fun r' s' z => ⟨z.1, z.2.choose, (z.2.choose_spec.1).sub (by
          change ∀ q ∈ ([("self", .raw (.ref x)), ("b", .int s.b), ("n", .int s.n), ("nt", .int s.nt)] : Vs), q ∈ (_ : Vs)
          walk_at "m sub"), z.2.choose_spec.2⟩
      | cons ch r ih =>
        intro s B hr hB1 hB2 hB3
        rw [List.length_cons] at hB2
        rw [wsRun]
        by_cases h32 : ch = 32
        · subst h32
          rw [if_pos rfl]
          refine ofor_cons (ρ1 := [("ch", .str ⟨#[32]⟩), ("self", .raw (.ref x)), ("S", .str ⟨#[32]⟩), ("T", .str ⟨#[9]⟩), ("b", .int s.b), ("n", .int s.n), ("nt", .int s.nt)]) (fun J L => ((I.also J).also L).sto _ (by kernel_rfl)) (fun L => by walk_at "m sub") (fun J => ?_) (ih ⟨s.cnt, s.b + 1, s.n + 1, s.nt⟩ B (fun k hk => hr k (.tail _ hk)) hB1 (by show s.b + 1 + _ + 1 ≤ B; omega) hB3)
          refine own_cons (ρ' := [("self", .raw (.ref x)), ("S", .str ⟨#[32]⟩), ("T", .str ⟨#[9]⟩), ("b", .int ((s.b : Int) + 1)), ("n", .int ((s.n : Int) + 1)), ("nt", .int s.nt)]) (own_ex fun L => ⟨[("count", .raw (.ref L)), ("self", .raw (.ref x)), ("S", .str ⟨#[32]⟩), ("T", .str ⟨#[9]⟩), ("b", .int ((s.b : Int) + 1)), ("n", .int ((s.n : Int) + 1)), ("nt", .int s.nt)],
            ex_if (c := true) ((tr_cmp (ev_name (by walk_at "m mem")) (ev_name (by walk_at "m mem")) cmp_eq_str).eq (by decide +kernel)) (fun _ => (exs_cons (ex_assign (ev_bin (ev_name (by walk_at "m mem")) ev_int bin_add_int) (((I.also J).also L).sto _ (by kernel_rfl))) (exs_cons (ex_assign (ev_bin (ev_name (by walk_at "m mem")) ev_int bin_add_int) (((I.also J).also L).sto _ (by kernel_rfl))) exs_nil)).less (by walk_at "m sub")) (fun q => nomatch q), by walk_at "m sub"⟩) (own_nil.less ?_)
          change ∀ q ∈ ([("self", .raw (.ref x)), ("S", .str ⟨#[32]⟩), ("T", .str ⟨#[9]⟩), ("b", .int ((s.b + 1 : Nat) : Int)), ("n", .int ((s.n + 1 : Nat) : Int)), ("nt", .int s.nt)] : Vs), q ∈ (_ : Vs)
          rw [show (s.b : Int) + 1 = ((s.b + 1 : Nat) : Int) by omega, show (s.n : Int) + 1 = ((s.n + 1 : Nat) : Int) by omega]
          walk_at "m sub"
        · have h9 : ch = 9 := (hr ch (.head _)).resolve_left h32
          subst h9
          rw [if_neg h32]
          have hfl := cntFill_len s.cnt s.b
          refine ofor_cons (ρ1 := [("ch", .str ⟨#[9]⟩), ("self", .raw (.ref x)), ("S", .str ⟨#[32]⟩), ("T", .str ⟨#[9]⟩), ("b", .int s.b), ("n", .int s.n), ("nt", .int s.nt)]) (ds1 := natsD (cntUp s.cnt s.b)) (fun J L => ((I.also J).also L).sto _ (by kernel_rfl)) (fun L => by walk_at "m sub") (fun J => ?_) (ih ⟨cntUp s.cnt s.b, 0, s.n + 1, s.nt + 1⟩ B (fun k hk => hr k (.tail _ hk)) (by show (cntUp s.cnt s.b).length ≤ B; unfold cntUp; rw [List.length_set]; omega) (by show 0 + _ + 1 ≤ B; omega) hB3)
          refine own_cons (ρ' := [("self", .raw (.ref x)), ("S", .str ⟨#[32]⟩), ("T", .str ⟨#[9]⟩), ("b", .int (0 : Nat)), ("n", .int ((s.n : Int) + 1)), ("nt", .int ((s.nt : Int) + 1))]) (own_if (c := false) (fun L => (tr_cmp (ev_name (by walk_at "m mem")) (ev_name (by walk_at "m mem")) cmp_eq_str).eq (by decide +kernel)) (fun q => nomatch q) fun _ => own_cons (own_if (c := true) (fun L => (tr_cmp (ev_name (by walk_at "m mem")) (ev_name (by walk_at "m mem")) cmp_eq_str).eq (by decide +kernel)) (fun _ => ?_) fun q => nomatch q) own_nil) (own_nil.less ?_)
          · refine own_cons (ρ' := [("ch", .str ⟨#[9]⟩), ("self", .raw (.ref x)), ("S", .str ⟨#[32]⟩), ("T", .str ⟨#[9]⟩), ("b", .int s.b), ("n", .int ((s.n : Int) + 1)), ("nt", .int s.nt)]) (own_ex fun L => ⟨_, ex_assign (ev_bin (ev_name (by walk_at "m mem")) ev_int bin_add_int) (((I.also J).also L).sto _ (by kernel_rfl)), by walk_at "m sub"⟩) ?_
            refine own_cons (ρ' := [("ch", .str ⟨#[9]⟩), ("self", .raw (.ref x)), ("S", .str ⟨#[32]⟩), ("T", .str ⟨#[9]⟩), ("b", .int s.b), ("n", .int ((s.n : Int) + 1)), ("nt", .int ((s.nt : Int) + 1))]) (own_ex fun L => ⟨_, ex_assign (ev_bin (ev_name (by walk_at "m mem")) ev_int bin_add_int) (((I.also J).also L).sto _ (by kernel_rfl)), by walk_at "m sub"⟩) ?_
            refine own_cons (ρ' := [("ch", .str ⟨#[9]⟩), ("self", .raw (.ref x)), ("S", .str ⟨#[32]⟩), ("T", .str ⟨#[9]⟩), ("b", .int s.b), ("n", .int ((s.n : Int) + 1)), ("nt", .int ((s.nt : Int) + 1))]) (ds' := natsD (cntFill s.cnt s.b)) (own_ifP (c := decide (s.cnt.length ≤ s.b)) ((tr_cmp (ev_name (by walk_at "m mem")) (evLen (I.also J).scp (by walk_at "m mem") (by omega) (by decide +kernel) (by decide +kernel)) cmp_ge_int).eq (decide_eq_decide.mpr (by omega))) (fun q => ?_) fun q => ?_) ?_
            · have q := of_decide_eq_true q
              have ef : natsD (cntFill s.cnt s.b) = natsD s.cnt ++ natsD (List.replicate (s.b - s.cnt.length + 1) 0) := by unfold cntFill natsD; rw [if_pos q, List.map_append]
              rw [ef]
              refine own_cons (own_extend ((ev_bin (ev_list (evs_cons ev_int evs_nil)) (ev_bin (ev_bin (ev_name (by walk_at "m mem")) (evLen (I.also J).scp (by walk_at "m mem") (by omega) (by decide +kernel) (by decide +kernel)) bin_sub_int) ev_int bin_add_int) (bin_list_mul (by omega) (by omega) ?_)).eq ?_) ?_ (fun L => ((I.also J).also L).sto _ (by kernel_rfl)) (fun L => by walk_at "m sub") (swaps_of (I.also J).scp (by with_unfolding_all rfl))) own_nil
              · show 1 * ((s.b : Int) - s.cnt.length + 1).toNat ≤ 2 ^ 24; omega
              · rw [rep_flat]
                unfold natsD
                rw [List.map_replicate, show ((s.b : Int) - s.cnt.length + 1).toNat = s.b - s.cnt.length + 1 by omega]; rfl
              · unfold natsD; rw [List.length_map, List.length_map, List.length_replicate]; omega
            · have q := of_decide_eq_false q
              have ef : natsD (cntFill s.cnt s.b) = natsD s.cnt := by unfold cntFill; rw [if_neg q]
              rw [ef]
              exact own_nil
            refine own_cons (ρ' := [("ch", .str ⟨#[9]⟩), ("self", .raw (.ref x)), ("S", .str ⟨#[32]⟩), ("T", .str ⟨#[9]⟩), ("b", .int s.b), ("n", .int ((s.n : Int) + 1)), ("nt", .int ((s.nt : Int) + 1))]) (ds' := natsD (cntUp s.cnt s.b)) ?_ (own_cons (own_ex fun L => ⟨_, ex_assign ev_int (((I.also J).also L).sto _ (by kernel_rfl)), by
              change ∀ q ∈ ([("count", .raw (.ref L)), ("self", .raw (.ref x)), ("S", .str ⟨#[32]⟩), ("T", .str ⟨#[9]⟩), ("b", .int 0), ("n", .int ((s.n : Int) + 1)), ("nt", .int ((s.nt : Int) + 1))] : Vs), q ∈ (_ : Vs)
              walk_at "m sub"⟩) own_nil)
            have es : natsD (cntUp s.cnt s.b) = (natsD (cntFill s.cnt s.b)).set s.b (.int ((cntFill s.cnt s.b).getD s.b 0 + 1 : Nat)) := by rw [natsD_set]; rfl
            rw [es]
            exact own_set ((ev_bin (ev_item_list (ev_name (by walk_at "m mem")) (ev_name (by walk_at "m mem")) (by omega) (by omega) (natsD_get hfl.1)) ev_int bin_add_int).eq (by congr 1)) (fun L => ev_name (by walk_at "m mem")) (by unfold natsD; rw [List.length_map]; exact hfl.1) (by unfold natsD; rw [List.length_map]; omega) (swaps_of (I.also J).scp (by with_unfolding_all rfl))
          · change ∀ q ∈ ([("self", .raw (.ref x)), ("S", .str ⟨#[32]⟩), ("T", .str ⟨#[9]⟩), ("b", .int ((0 : Nat) : Int)), ("n", .int ((s.n + 1 : Nat) : Int)), ("nt", .int ((s.nt + 1 : Nat) : Int))] : Vs), q ∈ (_ : Vs)
            rw [show (s.nt : Int) + 1 = ((s.nt + 1 : Nat) : Int) by omega, show (s.n : Int) + 1 = ((s.n + 1 : Nat) : Int) by omega]
            walk_at "m sub"
    · have hcl : (wsOf l).cnt.length ≤ 400 := Nat.le_trans (wsRun_len l ⟨[], 0, 0, 0⟩ (l.length + 1) (by simp) (by simp)) (by omega)
      refine ini_attr o KX clsOk2 (ev_rawName (ev_name (by walk_at "m mem"))) (ev_name (by walk_at "m mem")) ?_ (by decide +kernel) (by kernel_rfl) (by decide)
      refine ini_attr o KX clsOk2 (ev_rawName (ev_name (by walk_at "m mem"))) (ev_name (by walk_at "m mem")) ?_ (by decide +kernel) (by kernel_rfl) (by decide)
      refine ini_attr o KX clsOk2 (ev_rawName (ev_name (by walk_at "m mem"))) (ev_tuple (evs_cons (ev_callT (ev_bi G m3 B bi.tuple I.scp (by kernel_rfl)) (evs_cons (ev_name (by walk_at "m mem")) evs_nil) (bi_tuple (by unfold natsD; rw [List.length_map]; omega))) (evs_cons (ev_name (by walk_at "m mem")) evs_nil)) (by show 2 ≤ sizeLine; decide)) ?_ (by decide +kernel) (by kernel_rfl) (by decide)
      refine ini_attr o KX clsOk2 (ev_rawName (ev_name (by walk_at "m mem"))) ((ev_cmp (evLen I.scp (by walk_at "m mem") (by omega) (by decide +kernel) (by decide +kernel)) ev_int cmp_le_int).eq (d' := .bool (decide ((wsOf l).cnt.length ≤ 1))) (congrArg D.bool (decide_eq_decide.mpr (by omega)))) ?_ (by decide +kernel) (by kernel_rfl) (by decide)
      exact ini_nil
end
end Mine

set_option Elab.async false
set_option linter.unusedVariables false
set_option linter.unusedSimpArgs false
set_option maxRecDepth 100000
set_option maxHeartbeats 4000000
namespace Mine
open PySem.Challenge

local macro_rules | `(tactic| walk_at "m mem") => `(tactic| first
  | with_reducible exact put_head
  | with_reducible exact List.mem_cons_self
  | (with_reducible apply put_tail (h := by decide +kernel); walk_at "m mem")
  | (with_reducible refine List.mem_cons_of_mem _ ?_; walk_at "m mem")
  | (with_reducible refine cap_mem (by kernel_rfl) ?_; walk_at "m mem"))
local macro_rules | `(tactic| walk_at "m sub") => `(tactic| first
  | with_reducible exact allIn_nil
  | (with_reducible refine allIn_cons (by walk_at "m mem") ?_; walk_at "m sub"))

def leadL (ds : List Nat) : List Nat := ds.flatMap fun d => List.replicate d 32 ++ [9]
def leadO (ds : List Nat) : D := .obj 131 wsNames (wsVals (leadL ds))
def longP (ds : List Nat) : Int := max (((wsOf (leadL ds)).cnt.length : Int) - 1) (wsOf (leadL ds)).b
def normEq (a b : List Nat) : Bool := (wsOf (leadL a)).cnt == (wsOf (leadL b)).cnt && (wsOf (leadL a)).b == (wsOf (leadL b)).b
def leftN (k : Nat) (ds : List Nat) : Nat := (ds.map fun d => d - k).sum
def fitB (ds : List Nat) : Bool := decide (ds.length ≤ 12) && ds.all fun d => decide (1 ≤ d ∧ d ≤ 20)
theorem fitB_len {ds : List Nat} (h : fitB ds = true) : ds.length ≤ 12 := by
  unfold fitB at h; rw [Bool.and_eq_true, decide_eq_true_iff] at h; exact h.1
theorem fitB_mem {ds : List Nat} (h : fitB ds = true) : ∀ d ∈ ds, 1 ≤ d ∧ d ≤ 20 := by
  unfold fitB at h; rw [Bool.and_eq_true, List.all_eq_true] at h
  exact fun d hd => of_decide_eq_true (h.2 d hd)
theorem wsRun_n : ∀ (l : List Nat) (s : WS), (wsRun l s).n = s.n + l.length
  | [], s => rfl
  | ch :: r, s => by
    rw [wsRun, wsRun_n r, List.length_cons]
    split <;> (show s.n + 1 + _ = _; omega)
theorem leadL_chars (f : Nat → Nat) (ds : List Nat) : ∀ k ∈ ds.flatMap (fun d => List.replicate (f d) 32 ++ [9]), k = 32 ∨ k = 9 := by
  intro k hk
  obtain ⟨d, _, hk⟩ := List.mem_flatMap.mp hk
  simp only [List.mem_append, List.mem_replicate, List.mem_cons, List.not_mem_nil, or_false] at hk
  omega
theorem lead_len (f : Nat → Nat) (ds : List Nat) (B : Nat) (h : ∀ d ∈ ds, f d ≤ B) : (ds.flatMap (fun d => List.replicate (f d) 32 ++ [9])).length ≤ ds.length * (B + 1) :=
  flatMap_len _ _ _ fun d hd => by have := h d hd; simp; omega
theorem toPys_nats (l : List Nat) : D.toPys (natsD l) = l.map fun (n : Nat) => PyData.int n := by
  rw [natsD_int, toPys_ints, List.map_map]; rfl
theorem eqvAll_nats : ∀ a b : List Nat, PyData.eqvAll (a.map fun (n : Nat) => PyData.int n) (b.map fun (n : Nat) => PyData.int n) = (a == b)
  | [], [] => rfl
  | [], b :: bs => rfl
  | a :: as, [] => rfl
  | a :: as, b :: bs => by
    rw [List.map_cons, List.map_cons, PyData.eqvAll, eqvAll_nats as bs, PyData.eqv]
    show (((a : Int) == (b : Int)) && (as == bs)) = (a == b && as == bs)
    congr 1
    by_cases h : a = b
    · subst h; simp
    · have : ¬ (a : Int) = b := by omega
      rw [beq_eq_false_iff_ne.mpr h, beq_eq_false_iff_ne.mpr this]
theorem eqv_norm (a b : List Nat) (i j : Nat) : PyData.eqv (D.tup [.tup (natsD a), .int i]).toPy (D.tup [.tup (natsD b), .int j]).toPy = ((a == b) && (i == j)) := by
  show PyData.eqv (.tuple [.tuple (D.toPys (natsD a)), .int i]) (.tuple [.tuple (D.toPys (natsD b)), .int j]) = _
  rw [toPys_nats, toPys_nats, PyData.eqv, PyData.eqvAll, PyData.eqvAll, PyData.eqvAll, PyData.eqv, PyData.eqv, eqvAll_nats, Bool.and_true]
  congr 1
  by_cases h : i = j
  · subst h; simp
  · have : ¬ (i : Int) = j := by omega
    rw [beq_eq_false_iff_ne.mpr h, beq_eq_false_iff_ne.mpr this]
theorem norm_okd (a : List Nat) (i : Nat) : (D.tup [.tup (natsD a), .int i]).okd 2 = true := okd_tup fun d hd => by
  simp only [List.mem_cons, List.not_mem_nil, or_false] at hd
  rcases hd with rfl | rfl
  · exact okd_tup fun d hd => by
      obtain ⟨i, _, rfl⟩ := List.mem_map.mp hd
      exact okd_int _ _
  · exact okd_int _ _

section
variable {prog : Program} {w : World} {h₀ : Heap} {mg mb : Str → Option Value} {C : Cx} {ρ : Vs}

theorem clsA2 : ∀ {name : Str}, name ∈ wsNames → findIn (KK w) (.ref 131) name = some none := fun {name} h => by
  unfold wsNames at h
  simp only [List.mem_cons, List.not_mem_nil, or_false] at h
  rcases h with rfl | rfl | rfl | rfl | rfl <;> kernel_rfl
theorem bi_len_tup {l : List D} (hsz : l.length ≤ 2 ^ 62) : BiD prog w h₀ C ρ (.builtin "len") [.tup l] (.int l.length) := fun s vs H i => by
  obtain ⟨v, rfl, i1⟩ := i.one
  obtain ⟨a, vs, n, rfl, ha, ho, hs⟩ := i1.tup_inv
  refine len_tuple (isTuple_of ho) (by rw [List.size_toArray, hs.length]; omega) ⟨keeps_toks s 2, ?_⟩
  rw [List.size_toArray, hs.length]; exact .int _ _

theorem long_fn (KX : (KK w).In h₀) (lim : h₀.NoLimit) (G : h₀.Ns mainGlobals mg) (B : h₀.Ns builtinsNs mb) (bi : Bis mb) (ds : List Nat) (hsz : (wsOf (leadL ds)).cnt.length ≤ 1000) : FnD prog w h₀ 93 1 [leadO ds] (.int (longP ds)) := by
  have m1 : mg "len" = none := mg_none_of KX G (by kernel_rfl)
  have m2 : mg "max" = none := mg_none_of KX G (by kernel_rfl)
  refine fn_K ["self"] KX lim (by kernel_rfl) rfl ?_ ?_
  · intro fd e vs hl
    match vs, hl with
    | [u], _ => cases e; rfl
  · intro C I
    show ExsD _ _ _ _ [("self", .obj 131 wsNames (wsVals (leadL ds)))] _ _
    conv => arg 6; whnf
    refine exs_cons (ex_asgT (d := .tup [.tup (natsD (wsOf (leadL ds)).cnt), .int (wsOf (leadL ds)).b]) (ev_attr KX clsOk2 (ev_name (by walk_at "m mem")) (by rfl) (clsA2 (by decide +kernel)) (fun u q => nomatch q)) (asg_two (I.sto _ (by kernel_rfl)) (I.sto _ (by kernel_rfl)))) ?_
    refine exs_ret (ex_ret ((ev_callB (ev_bi G m2 B bi.max I.scp (by kernel_rfl)) (evs_cons (ev_bin (ev_callB (ev_bi G m1 B bi.len I.scp (by kernel_rfl)) (evs_cons (ev_name (by walk_at "m mem")) evs_nil) (bi_len_tup (by unfold natsD; rw [List.length_map]; omega))) ev_int bin_sub_int) (evs_cons (ev_name (by walk_at "m mem")) evs_nil)) bi_max2).eq ?_))
    unfold longP natsD; rw [List.length_map]
theorem equal_fn (KX : (KK w).In h₀) (lim : h₀.NoLimit) (a b : List Nat) : FnD prog w h₀ 107 1 [leadO a, leadO b] (.bool (normEq a b)) := by
  refine fn_K ["self", "other"] KX lim (by kernel_rfl) rfl ?_ ?_
  · intro fd e vs hl
    match vs, hl with
    | [u, v], _ => cases e; rfl
  · intro C I
    show ExsD _ _ _ _ [("self", .obj 131 wsNames (wsVals (leadL a))), ("other", .obj 131 wsNames (wsVals (leadL b)))] _ _
    conv => arg 6; whnf
    refine exs_ret (ex_ret ((ev_cmp (ev_attr (d := .tup [.tup (natsD (wsOf (leadL a)).cnt), .int (wsOf (leadL a)).b]) KX clsOk2 (ev_name (by walk_at "m mem")) (by rfl) (clsA2 (by decide +kernel)) (fun u q => nomatch q)) (ev_attr (d := .tup [.tup (natsD (wsOf (leadL b)).cnt), .int (wsOf (leadL b)).b]) KX clsOk2 (ev_name (by walk_at "m mem")) (by rfl) (clsA2 (by decide +kernel)) (fun u q => nomatch q)) (cmp_eq_data (okd_ok (norm_okd _ _) (by decide)) (okd_ok (norm_okd _ _) (by decide)) (by have := I.room.units; omega))).eq ?_))
    rw [eqv_norm]; rfl
end
end Mine

set_option Elab.async false
set_option linter.unusedVariables false
set_option linter.unusedSimpArgs false
set_option maxRecDepth 100000
set_option maxHeartbeats 4000000
namespace Mine
open PySem.Challenge

local macro_rules | `(tactic| walk_at "m mem") => `(tactic| first
  | with_reducible exact put_head
  | with_reducible exact List.mem_cons_self
  | (with_reducible apply put_tail (h := by decide +kernel); walk_at "m mem")
  | (with_reducible refine List.mem_cons_of_mem _ ?_; walk_at "m mem")
  | (with_reducible refine cap_mem (by kernel_rfl) ?_; walk_at "m mem"))
local macro_rules | `(tactic| walk_at "m sub") => `(tactic| first
  | with_reducible exact allIn_nil
  | (with_reducible refine allIn_cons (by walk_at "m mem") ?_; walk_at "m sub"))

theorem blank_row (d : Nat) : Txt.replace (rowS d) ⟨#[46]⟩ ⟨#[32]⟩ = padded d 97 [] := by
  refine str_of ?_
  rw [replace_map]
  show List.map _ (rowL d) = _
  unfold rowL
  rw [List.map_append, map_rep, turnC_free 46 32 [97] (by decide)]
theorem tab_rows (f : Nat → Nat) (ds : List Nat) : Txt.replace ⟨(ds.flatMap fun d => List.replicate (f d) 32 ++ [97]).toArray⟩ ⟨#[97]⟩ ⟨#[9]⟩ = ⟨(ds.flatMap fun d => List.replicate (f d) 32 ++ [9]).toArray⟩ := by
  refine str_of ?_
  rw [replace_map]
  show List.map _ (ds.flatMap fun d => List.replicate (f d) 32 ++ [97]) = _
  rw [List.map_flatMap]
  congr 1
  funext d
  rw [List.map_append, turnC_free 97 9 (List.replicate (f d) 32) (by simp)]
  rfl
theorem blank_rows (ds : List Nat) : Txt.replace ⟨(ds.flatMap rowL).toArray⟩ ⟨#[46]⟩ ⟨#[32]⟩ = ⟨(ds.flatMap fun d => List.replicate d 32 ++ [97]).toArray⟩ := by
  refine str_of ?_
  rw [replace_map]
  show List.map _ (ds.flatMap rowL) = _
  rw [List.map_flatMap]
  congr 1
  funext d
  unfold rowL
  rw [List.map_append, map_rep, turnC_free 46 32 [97] (by decide)]
theorem rows97_len (c : Nat) (f : Nat → Nat) (ds : List Nat) (B : Nat) (h : ∀ d ∈ ds, f d ≤ B) : (ds.flatMap (fun d => List.replicate (f d) c ++ [97])).length ≤ ds.length * (B + 1) :=
  flatMap_len _ _ _ fun d hd => by have := h d hd; simp; omega
theorem left_sum (k : Nat) : ∀ ds : List Nat, (ds.flatMap fun d => List.replicate (d - min k d) 32 ++ [9]).length = leftN k ds + ds.length
  | [] => rfl
  | d :: ds => by
    rw [List.flatMap_cons, List.length_append, left_sum k ds]
    unfold leftN
    rw [List.map_cons, List.sum_cons, List.length_cons]
    simp; omega

section
variable {prog : Program} {w : World} {h₀ : Heap} {mg mb : Str → Option Value} {C : Cx} {ρ : Vs}

theorem left_fn (KX : (KK w).In h₀) (lim : h₀.NoLimit) (G : h₀.Ns mainGlobals mg) (B : h₀.Ns builtinsNs mb) (bi : Bis mb) (ds : List Nat) (k : Nat) (hf : fitB ds = true) :
    FnD prog w h₀ 152 3 [.list (rowsD ds), .int k] (.int (leftN k ds : Nat)) := by
  have m1 : mg "len" = none := mg_none_of KX G (by kernel_rfl)
  have g1 : mg "_strip_padding" = some (.ref 69) := mg_of KX G (by kernel_rfl)
  have g2 : mg "Whitespace" = some (.ref 131) := mg_of KX G (by kernel_rfl)
  have hl := fitB_len hf
  have hm := fitB_mem hf
  refine fn_K ["kept", "k"] KX lim (by kernel_rfl) rfl ?_ ?_
  · intro fd e vs hl
    match vs, hl with
    | [u, v], _ => cases e; rfl
  · intro C I
    show ExsD _ _ _ _ [("kept", .list (rowsD ds)), ("k", .int k)] _ _
    conv => arg 6; whnf
    refine exs_cons (ex_comp (src := .list (rowsD ds)) ds (fun d => .str (rowS d)) (fun d => [D.str (padded (d - min k d) 97 [])]) I.scp (by kernel_rfl) (ev_name (by walk_at "m mem")) (.list _) ?_ ?_ (I.sto _ (by kernel_rfl)) (swaps_of I.scp (by with_unfolding_all rfl))) ?_
    · rw [flat_one, List.length_map, sizeLine_eq]; omega
    · intro d hd Cc J
      have hd := hm d hd
      have hr : Room Cc.A 1 := by rw [J.A]; exact I.room.less (by decide)
      refine turn_all (asg_name (J.sto _ (by kernel_rfl))) (cap_put (by kernel_rfl)) (ev_callK KX (ev_glob G g1 J.scp (by kernel_rfl)) (by kernel_rfl) (evs_cons ((ev_replace (ev_name (by walk_at "m mem")) (by decide +kernel) ?_).eq (congrArg D.str (blank_row d))) (evs_cons (ev_name (by walk_at "m mem")) evs_nil)) (strip_fn KX lim G B bi.len d k 97 [] (by decide) (by decide) (by show d + 0 ≤ 1000; omega)) hr)
      show (rowL d).toArray.size + ((rowL d).toArray.size + 1) * 1 ≤ _
      rw [List.size_toArray, rowS_len]; omega
    have hcomp : (ds.flatMap fun d => [D.str (padded (d - min k d) 97 [])]) = (ds.map fun d => padded (d - min k d) 97 []).map D.str := by rw [flat_one, List.map_map]; rfl
    rw [hcomp]
    have hfl : (ds.map fun d => padded (d - min k d) 97 []).flatMap (·.cps.toList) = ds.flatMap fun d => List.replicate (d - min k d) 32 ++ [97] := by
      rw [List.flatMap_map]; rfl
    have hj : Txt.join ⟨#[]⟩ (ds.map fun d => padded (d - min k d) 97 []) = ⟨(ds.flatMap fun d => List.replicate (d - min k d) 32 ++ [97]).toArray⟩ := str_of (by rw [join_list, hfl])
    have hb := rows97_len 32 (fun d => d - min k d) ds 20 (fun d hd => by have := hm d hd; omega)
    have hb9 := lead_len (fun d => d - min k d) ds 20 (fun d hd => by have := hm d hd; omega)
    have h20 : ds.length * (20 + 1) ≤ 12 * 21 := Nat.mul_le_mul_right _ hl
    generalize hL : (ds.flatMap fun d => List.replicate (d - min k d) 32 ++ [9]) = L at *
    have hch : ∀ c ∈ L, c = 32 ∨ c = 9 := by rw [← hL]; exact leadL_chars _ ds
    refine exs_ret (ex_ret ((ev_bin (ev_attr (c := 131) (ns := wsNames) (vs := wsVals L) (d := .int (wsOf L).n) KX clsOk2 (ev_callK KX (ev_glob G g2 I.scp (by kernel_rfl)) (by kernel_rfl) (evs_cons ((ev_replace (x := ⟨(ds.flatMap fun d => List.replicate (d - min k d) 32 ++ [97]).toArray⟩) ((ev_methS (x := ⟨#[]⟩) ev_str (evs_cons (ev_name (by walk_at "m mem")) evs_nil) F.slot_str_join F.type_str_join (bi_join (joinOk_list _ (by rw [hfl]; omega)))).eq (congrArg D.str hj)) (by decide +kernel) ?_).eq ((congrArg D.str (tab_rows (fun d => d - min k d) ds)).trans (by rw [hL]))) evs_nil) (white2_new KX lim G B bi L hch (by omega)) I.room) (by rfl) (clsA2 (by decide +kernel)) (fun u q => nomatch q))
      (ev_callB (ev_bi G m1 B bi.len I.scp (by kernel_rfl)) (evs_cons (ev_name (by walk_at "m mem")) evs_nil) (bi_len_list (by unfold rowsD; rw [List.length_map]; omega))) bin_sub_int).eq ?_))
    · show (List.toArray _).size + ((List.toArray _).size + 1) * 1 ≤ _
      rw [List.size_toArray]; omega
    · have hn : (wsOf L).n = leftN k ds + ds.length := by
        unfold wsOf
        rw [wsRun_n, ← hL, left_sum]
        show 0 + _ = _; omega
      have hr : (rowsD ds).length = ds.length := by unfold rowsD; rw [List.length_map]
      rw [hn, hr]
      congr 1; omega
end
end Mine

set_option Elab.async false
set_option linter.unusedVariables false
set_option linter.unusedSimpArgs false
set_option maxRecDepth 100000
set_option maxHeartbeats 4000000
namespace Mine

/-! the first steps of a frame, when no token may be used up yet -/
def Sat0 (h₀ : Heap) (C : Cx) (ρ : Vs) (s : Shared) : Prop := ∀ t : Nat, 1 ≤ t → Sat h₀ C ρ { s with toks := t }
section
variable {prog : Program} {w : World} {h₀ : Heap} {C : Cx} {ρ : Vs}
theorem Sat0.sat {s : Shared} (H : Sat0 h₀ C ρ s) (h : @LE.le Nat _ 1 s.toks) : Sat h₀ C ρ s := H s.toks h
theorem fn_code0 {f : Addr} {ob : Obj} {fd : FuncData} {body : List Stmt} {xs : List Str} {n : Nat} {ds : List D} {A : Around} {X : Addr → Prop} {s : Shared} {vs : List Value} {R₀ : Result → Shared → Prop} (ho : h₀.get? f = some ob) (hdata : ob.data = .func fd) (hcd : h₀.CodeRec fd.code fd.qualname) (hlim : h₀.NoLimit)
    (hbody : fd.body = .stmts body) (hclo : fd.closure = []) (hglob : fd.globals = mainGlobals) (hbi : fd.builtins = builtinsNs) (hlen : xs.length = ds.length) (hbind : ∀ vs : List Value, vs.length = xs.length → bindArgs fd ⟨vs, []⟩ = pure (xs.zip vs)) (hok : fnOk fd.scope xs = true)
    (R : Room A (n + 1)) (gens : s.gens = #[]) (top : ∀ b o, h₀.get? b = some o → s.heap.get? b = some o) (alloc : ∀ a, X a → ∃ o, s.heap.get? a = some o) (i : IsAll X s.heap vs ds)
    (h : ∀ C s₁, InFn C fd.scope n → Sat0 h₀ C (xs.zip ds) s₁ → Keeps s s₁ → (∀ a, C.W a → s.heap.get? a = none) → (∀ a, C.X a ↔ (X a ∨ C.W a)) →
      wpAny (model prog w) C.A (execs body C.env) (fun f s' => R₀ (.ok (.ret (match f with | .ret v => v | _ => .none))) s') no s₁) : codeAny (model prog w) A (.call (.ref f) ⟨vs, []⟩) R₀ s := by
  unfold fnOk at hok
  simp only [Bool.and_eq_true, beq_iff_eq, Bool.not_eq_true', List.all_eq_true, decide_eq_true_eq, bne_iff_ne, ne_eq] at hok
  obtain ⟨⟨⟨⟨⟨hk, hco⟩, hgen⟩, hown⟩, hnd⟩, hfr⟩ := hok
  have hlv : vs.length = xs.length := by rw [i.length, hlen]
  have hnames : (xs.zip vs).map (·.1) = xs := List.map_fst_zip (by omega)
  have hmem : ∀ p ∈ xs.zip vs, p.1 ∈ xs := fun p hp => by rw [← hnames]; exact List.mem_map_of_mem hp
  have kinds : ∀ x, ownIn fd.scope x = true → fd.scope.names.lookup x = some .local ∨ fd.scope.names.lookup x = some .cell := fun x hx => by
    unfold ownIn at hx
    simpa only [Bool.or_eq_true, beq_iff_eq] using hx
  refine codeAny_call_function (by have := R.depth; omega) (top _ _ ho) hdata hco hgen hbody (hcd.keeps top) ?_
  rw [hbind vs hlv, hclo]
  refine wpAny_pure (wpAny_with_toks (n := s.toks) (Nat.le_refl _) ?_)
  refine wpAny_newFunctionEnv_cells hk (fun p hp => ?_) fun env he s₁ Y htk => ?_
  · rcases kinds _ (hown _ (hmem p hp)) with q | q
    · exact .inl q
    · exact .inr ⟨q, cellsFrom_has _ _ _ _ (.inl (lookup_mem q))⟩
  generalize hL : s.heap.objs.size = L at he
  have henv : callEnvC fd L f = env := he.symm
  have escp : env.scope = fd.scope := by rw [← henv]; rfl
  have eloc : env.locals = L := by rw [← henv]; rfl
  have ecell : env.cells = cellsFrom (L + 1) fd.scope.names [] := by rw [← henv]; rfl
  have ekind : ∀ x, env.kindOf x = fd.scope.names.lookup x := fun x => by unfold Env.kindOf; rw [escp]
  let W' : Addr → Prop := fun a => a = L ∨ ∃ x, env.cells.lookup x = some a
  let C : Cx := ⟨A.deeper env, env, fun a => X a ∨ W' a, W'⟩
  have wge : ∀ a, W' a → s.heap.get? a = none := fun a q => by
    refine get_none_of_le ?_
    rcases q with rfl | ⟨x, e⟩
    · exact Nat.le_of_eq hL
    · have := Y.above _ _ (mem_of_lookup e)
      rw [eloc] at this
      rw [hL]; exact Nat.le_of_lt this
  have w0 : ∀ a, W' a → h₀.get? a = none := fun a q => by
    cases e : h₀.get? a with
    | none => rfl
    | some o => have := top a o e; rw [wge a q] at this; cases this
  have G : Good h₀ C := by
    refine ⟨?_, ?_, ?_, R.hh, fun a q => .inr q, w0, .inl eloc, fun x y c e e' => name_of_addr Y.apart (mem_of_lookup e) (mem_of_lookup e'), fun x hx => ?_⟩
    · show env.scope.kind = _; rw [escp]; exact hk
    · show env.globals = _; rw [← henv]; exact hglob
    · show env.builtins = _; rw [← henv]; exact hbi
    · show (env.cells.lookup x).isSome = true
      rw [ecell]
      refine cellsFrom_has _ _ _ _ (.inl ?_)
      rcases hx with hx | hx
      · have : env.kindOf x = some .cell := hx
        rw [ekind] at this; exact lookup_mem this
      · have : env.kindOf x = some .free := hx
        rw [ekind] at this
        exact absurd rfl (hfr _ (lookup_mem this))
  have I : InFn C fd.scope n := by
    refine ⟨⟨R.hh, ?_, ?_⟩, escp, fun x hx => ?_⟩
    · have := R.depth; show A.depth + 1 + n < _; omega
    · have := R.units; show A.units + 3 + 100 + 4 * n < _; omega
    · rcases kinds x hx with q | q
      · exact .inl ((ekind x).trans q)
      · obtain ⟨c, e⟩ := Option.isSome_iff_exists.mp (cellsFrom_has x fd.scope.names (L + 1) [] (.inl (lookup_mem q)))
        rw [← ecell] at e
        exact .inr ⟨(ekind x).trans q, c, e, .inr ⟨x, e⟩⟩
  obtain ⟨h', tk, es, kk⟩ := Y.done
  have k₁ : Keeps s s₁ := keeps_of0 ⟨h', tk, es, kk⟩ htk
  have S : Sat0 h₀ C (xs.zip ds) s₁ := fun t ht => by
    refine ⟨G, by rw [es]; exact gens, ht, fun b o e => keeps_get k₁ (top b o e), fun a xa => ?_, ⟨_, Y.toInCall.ns⟩, fun x c e => ⟨_, Y.cell x c e⟩, fun p hp => ?_⟩
    · rcases xa with xa | rfl | ⟨x, e⟩
      · obtain ⟨o, e⟩ := alloc a xa; exact ⟨o, keeps_get k₁ e⟩
      · obtain ⟨o, _, _, e, _⟩ := Y.toInCall.ns; rw [eloc] at e; exact ⟨o, e⟩
      · obtain ⟨o, e', _⟩ := Y.cell x a e; exact ⟨o, e'⟩
    · obtain ⟨v, hv, iv⟩ := zip_isAll i p hp
      refine ⟨v, iv.mono fun b o nb e => ⟨fun z => z.elim nb fun z => (by rw [wge b z] at e; cases e), keeps_get k₁ e⟩, ?_⟩
      have hz : ((xs.zip vs).map (·.1)).Nodup := by rw [hnames]; exact hnd
      rcases kinds p.1 (hown _ (hmem _ hv)) with q | q
      · exact .inl ⟨(ekind _).trans q, _, Y.toInCall.ns, bindL_get _ _ _ _ hz hv ((ekind _).trans q)⟩
      · obtain ⟨c, e⟩ := Option.isSome_iff_exists.mp (cellsFrom_has p.1 fd.scope.names (L + 1) [] (.inl (lookup_mem q)))
        rw [← ecell] at e
        refine .inr ⟨.inl ((ekind _).trans q), c, e, ?_⟩
        have := Y.cell p.1 c e
        rwa [bindC_get _ _ _ _ hz hv ((ekind _).trans q)] at this
  exact ⟨hlim.keeps fun b o e => keeps_get k₁ (top b o e), codeAny_func (wpAny_mono (h C s₁ I S k₁ wge fun a => Iff.rfl) (fun fl s' z => z) fun _ _ z => z.elim)⟩


end
end Mine

set_option Elab.async false
set_option linter.unusedVariables false
set_option linter.unusedSimpArgs false
set_option maxRecDepth 100000
set_option maxHeartbeats 4000000
namespace Mine

section
variable {prog : Program} {w : World} {h₀ : Heap} {C : Cx} {ρ ρ' : Vs} {mg mb : Str → Option Value}
theorem Sat0.keeps {s s' : Shared} (H : Sat0 h₀ C ρ s) (k : Keeps s s') : Sat0 h₀ C ρ s' := fun t ht => by
  obtain ⟨h', tk, rfl, l, kk⟩ := k
  exact (H 1 (Nat.le_refl _)).keeps ⟨h', t, rfl, ht, kk⟩
/-- behind this expression a token has been used up -/
def Ev0 (prog : Program) (w : World) (h₀ : Heap) (C : Cx) (ρ : Vs) (e : Expr) (d : D) : Prop :=
  ∀ s, Sat0 h₀ C ρ s → wpAny (model prog w) C.A (eval e C.env) (fun v s' => Keeps s s' ∧ Sat h₀ C ρ s' ∧ Is C.X s'.heap v d) no s
theorem name0 {x : Str} {pos : Pos} {d : D} (hm : (x, d) ∈ ρ) {s : Shared} (H : Sat0 h₀ C ρ s) (hd : (x == ("__debug__" : Str)) = false := by decide +kernel) (hn : (x == ("__classdict__" : Str)) = false := by decide +kernel) :
    wpAny (model prog w) C.A (eval (.Name x pos) C.env) (fun v s' => s' = s ∧ Is C.X s.heap v d) no s := by
  have H1 := H 1 (Nat.le_refl _)
  obtain ⟨v, i, hv⟩ := H1.vars _ hm
  refine wpAny_Name ?_ hd
  rcases hv with ⟨a, m, b, c⟩ | ⟨a | a, c, b, e⟩
  · exact wpAny_loadName_local H1.good.fn a b c ⟨rfl, i⟩
  · exact wpAny_loadName_cell H1.good.fn a b e ⟨rfl, i⟩
  · exact wpAny_loadName_free H1.good.fn a b e ⟨rfl, i⟩ hn
theorem ev0_list {i : Int} {k : Nat} {p pos : Pos} {rest : List Expr} {ds : List D} (hr : EvsD prog w h₀ C ρ rest ds) (hsz : ds.length ≤ 100)
    (he : ∀ env, starEach (.Constant (.int i) k p :: rest) env = (false, eval (.Constant (.int i) k p) env) :: starEach rest env := by intro _; rfl) : Ev0 prog w h₀ C ρ (.List (.Constant (.int i) k p :: rest) pos) (.list (.int i :: ds)) := fun s H =>
  wpAny_List (wpAny_items_cons (wpAny_Constant_int (by
    have k1 : Keeps s { s with toks := s.toks + 1 } := keeps_toks s 1
    have S := (H.keeps k1).sat (Nat.le_add_left _ _)
    refine wpAny_mono (hr pos _ S) (fun vs s₁ z => ?_) fun _ _ z => z
    obtain ⟨k₂, i₂⟩ := z
    have S₁ := S.keeps k₂
    have kp := keeps_push s₁ { cls := .type "list", data := .seq (Value.int i s.toks :: vs).toArray }
    refine ⟨by rw [List.length_cons, i₂.length, sizeLine_eq]; omega, keeps_trans k1 (keeps_trans k₂ kp), S₁.keeps kp, .list S₁.fresh (n := 0) (Heap.get?_push_size _ rfl) (.cons (.int _ _) (i₂.keeps kp))⟩)) (he _))
theorem ev0_slice {v : Expr} {lo hi : Option Expr} {p pos : Pos} {ds : List D} {a b : Option Int} (hv : Ev0 prog w h₀ C ρ v (.list ds)) (ha : PartD prog w h₀ C ρ lo a) (hb : PartD prog w h₀ C ρ hi b) (hsz : ds.length ≤ sizeLine) :
    Ev0 prog w h₀ C ρ (.Subscript v (.Slice lo hi none p) pos) (.list (sliceL ds a b)) := fun s H =>
  Subscript_ (wpAny_mono (hv s H) (fun o s₁ z => wpAny_Slice (ha.then z.2.1 fun pl s₂ k₂ H₂ el => hb.then H₂ fun pu s₃ k₃ H₃ eu => by
    refine wpAny_pure ?_
    obtain ⟨k₁, H₁, i₁⟩ := z
    have k13 := keeps_trans k₂ k₃
    have kp := keeps_push s₃ { cls := .type "slice", data := .fields #[partValue pl, partValue pu, .none] }
    obtain ⟨ad, vs, n, rfl, hX, ho, hall⟩ := ((i₁.keeps k13).keeps kp).list_inv
    refine tail_any (isList_of ho).typeIs slot_list_getitem.lookup (ops := [.ref s₃.heap.objs.size, .ref ad]) ?_ rfl
    refine wpAny_getItem_list_slice (isList_of ho) (Heap.IsSliceOf.new ..) (isPart_of pl) (isPart_of pu) .none (by simp) ?_ (by rw [List.size_toArray, hall.length]; exact hsz)
    have kq := keeps_push ({ s₃ with heap := s₃.heap.push { cls := .type "slice", data := .fields #[partValue pl, partValue pu, .none] } } : Shared) { cls := .type "list", data := .seq (slicePick vs.toArray (pl.map (·.1)) (pu.map (·.1)) none) }
    have hH := H₃.keeps kp
    refine ⟨keeps_trans k₁ (keeps_trans k13 (keeps_trans kp kq)), hH.keeps kq, ?_⟩
    refine .list (n := 0) (vs := sliceL vs a b) hH.fresh ?_ ((hall.keeps kq).slice a b)
    have e := Heap.get?_push_size (s₃.heap.push { cls := .type "slice", data := .fields #[partValue pl, partValue pu, .none] }) (o := { cls := .type "list", data := .seq (slicePick vs.toArray (pl.map (·.1)) (pu.map (·.1)) none) }) rfl
    refine e.trans ?_
    rw [el, eu, slicePick_plain]
    simp [listObj, sliceL])) fun _ _ z => z)
theorem ev0_add {x : Str} {r : Expr} {p pos : Pos} {l m : List D} (hm : (x, D.list l) ∈ ρ) (hr : Ev0 prog w h₀ C ρ r (.list m)) (hsz : l.length + m.length ≤ sizeLine)
    (hd : (x == ("__debug__" : Str)) = false := by decide +kernel) (hn : (x == ("__classdict__" : Str)) = false := by decide +kernel) : Ev0 prog w h₀ C ρ (.BinOp (.Name x p) .Add r pos) (.list (l ++ m)) := fun s H =>
  wpAny_BinOp (wpAny_mono (name0 hm H hd hn) (fun va s₁ z => by
    obtain ⟨rfl, i₁⟩ := z
    refine wpAny_mono (hr s₁ H) (fun vb s₂ z => ?_) fun _ _ z => z
    obtain ⟨k₂, H₂, i₂⟩ := z
    exact wpAny_mono (bin_list_add hsz va vb s₂ H₂ (i₁.keeps k₂) i₂) (fun v s₃ z => ⟨keeps_trans k₂ z.1, H₂.keeps z.1, z.2⟩) fun _ _ z => z) fun _ _ z => z)
theorem exs0 {x : Str} {px pos : Pos} {e : Expr} {d : D} {rest : List Stmt} {d' : D} (h : Ev0 prog w h₀ C ρ e d) (hk : Stores C x) (hs : swapsWith e (some (.Name x px)) pos.line C.env = pure false) (hr : ExsD prog w h₀ C (put ρ x d) rest (.ret d')) {s : Shared} (H : Sat0 h₀ C ρ s) :
    wpAny (model prog w) C.A (execs (.Assign [.Name x px] e pos :: rest) C.env) (fun f s' => KeepsW C.W s s' ∧ OutOk h₀ C (.ret d') f s') no s := by
  refine wpAny_execs_cons (wpAny_Assign_Name (wpAny_mono (h s H) (fun v s₁ z => ?_) fun _ _ z => z.elim) hs)
  obtain ⟨k₁, H₁, i₁⟩ := z
  refine wpAny_mono (store_name hk H₁ i₁) (fun _ s₂ z => ?_) fun _ _ z => z.elim
  exact wpAny_mono (hr s₂ z.2) (fun f s₃ y => ⟨keepsW_trans (keepsW_of k₁) (keepsW_trans z.1 y.1), y.2⟩) fun _ _ z => z

theorem fn_top0 {K : Frag} {f : Addr} {n : Nat} {d0 d : D} (x : Str) (KX : K.In h₀) (lim : h₀.NoLimit) (hok : fnAtOk K f [x] = true) (hbind : ∀ fd, fdAt K f = some fd → ∀ v : Value, bindArgs fd ⟨[v], []⟩ = pure [(x, v)])
    (h : ∀ C s, InFn C (scAt K f) n → Sat0 h₀ C [(x, d0)] s → wpAny (model prog w) C.A (execs (bdAt K f) C.env) (fun f s' => KeepsW C.W s s' ∧ OutOk h₀ C (.ret d) f s') no s) {A : Around} {s : Shared} {v : Value} (R : Room A (n + 1)) (gens : s.gens = #[]) (top : ∀ b o, h₀.get? b = some o → s.heap.get? b = some o) (i : Is (fun _ => False) s.heap v d0) :
    wpAny (model prog w) A (call (.ref f) [v]) (fun u s' => Keeps s s' ∧ Is (fun _ => False) s'.heap u d) no s := by
  unfold fnAtOk at hok
  split at hok
  · rename_i fd e
    obtain ⟨ob, ho, hd⟩ := fdAt_in KX e
    simp only [Bool.and_eq_true, beq_iff_eq, List.isEmpty_iff] at hok
    obtain ⟨⟨⟨⟨⟨a1, a2⟩, a3⟩, a4⟩, a5⟩, a6⟩ := hok
    have hsc : scAt K f = fd.scope := by unfold scAt; rw [e]
    have hb : fd.body = .stmts (bdAt K f) := by
      unfold bdAt; rw [e]
      dsimp only
      split at a2
      · rename_i q; rw [q]
      · cases a2
    rw [hsc] at h
    refine wpAny_call (fn_code0 (xs := [x]) (ds := [d0]) (X := fun _ => False) ho hd (codeRec_of KX a1) lim hb a3 a4 a5 rfl (fun vs hl => ?_) a6 R gens top (fun a q => q.elim) (.cons i .nil) fun C s₁ I S k₁ wge hX => ?_)
    · match vs, hl with
      | [v], _ => exact hbind fd e v
    refine wpAny_mono (h C s₁ I S) (fun fl s' z => ?_) fun _ _ z => z
    obtain ⟨k₂, v, rfl, iv⟩ := z
    refine ⟨?_, iv.less fun a q => (hX a).mpr (.inl q)⟩
    obtain ⟨h2, t2, e2, l2, k2⟩ := keepsW_trans (keepsW_of (W := C.W) k₁) k₂
    exact ⟨h2, t2, e2, l2, fun b o e => k2 b o (fun q => by rw [wge b q] at e; cases e) e⟩
  · cases hok
end
end Mine

set_option Elab.async false
set_option linter.unusedVariables false
set_option linter.unusedSimpArgs false
set_option maxRecDepth 100000
set_option maxHeartbeats 8000000
namespace Mine
open PySem.Challenge

local macro_rules | `(tactic| walk_at "m mem") => `(tactic| first
  | with_reducible exact put_head
  | with_reducible exact List.mem_cons_self
  | (with_reducible apply put_tail (h := by decide +kernel); walk_at "m mem")
  | (with_reducible refine List.mem_cons_of_mem _ ?_; walk_at "m mem")
  | (with_reducible refine cap_mem (by kernel_rfl) ?_; walk_at "m mem"))
local macro_rules | `(tactic| walk_at "m sub") => `(tactic| first
  | with_reducible exact allIn_nil
  | (with_reducible refine allIn_cons (by walk_at "m mem") ?_; walk_at "m sub"))

abbrev RunT := List Nat × Bool × Bool
def nums2 (script : List Int) : List Int := sliceL (script ++ sliceL [4, 0, 3] (some (script.length : Int)) none) none (some 3)
def comersOf (nums : List Int) : List Nat := 2 :: nums.map fun x => (x.fmod 3).toNat
def endL2 (nums : List Int) : List Nat := if nums.sum.fmod 3 = 0 then [10] else if nums.sum.fmod 3 = 1 then [13] else [13, 10]
def runD (r : RunT) : D := .tup [.list (rowsD r.1), .bool r.2.1, .bool r.2.2]
def waitsD (ds : List Nat) : D := .list ((ds.map fun (d : Nat) => (d : Int) - 1).map D.int)
theorem nums2_length (script : List Int) : (nums2 script).length = 3 := by
  unfold nums2 sliceL
  rw [show (3 : Int) = ((3 : Nat) : Int) by rfl]
  simp only [Option.elim, clip_nat, List.length_take, List.length_drop, List.length_append, List.length_cons, List.length_nil, Nat.sub_zero]
  omega
theorem endL2_end (nums : List Int) : IsEnd (endL2 nums) := by
  unfold endL2 IsEnd
  split
  · exact .inl rfl
  · split
    · exact .inr (.inl rfl)
    · exact .inr (.inr rfl)
theorem waits_map (ds : List Nat) : (ds.map fun (d : Nat) => D.int ((d : Int) - 1)) = (ds.map fun (d : Nat) => (d : Int) - 1).map D.int := by rw [List.map_map]; rfl
theorem left_ints (k : Nat) : ∀ ds : List Nat, ((ds.map fun (d : Nat) => max ((d : Int) - 1 + 1 - k) 0)).sum = (leftN k ds : Nat)
  | [] => rfl
  | d :: ds => by
    rw [List.map_cons, List.sum_cons, left_ints k ds]
    unfold leftN
    rw [List.map_cons, List.sum_cons]
    omega

/-- what the runs must be like -/
structure Facts (cm : List Nat) (picks : Int) (r0 r1 r2 : RunT) : Prop where
  e0 : runR cm (pickOf (-1) picks) 20 0 [] [] true true = some r0
  e1 : runR cm (pickOf 0 picks) 20 0 [] [] true true = some r1
  e2 : runR cm (pickOf 1 picks) 20 0 [] [] true true = some r2
  f0 : fitB r0.1 = true
  f1 : fitB r1.1 = true
  f2 : fitB r2.1 = true
  line : (lineOut cm [0, 1, 2, 3] (-1, [])).2 = r0.1.map fun (d : Nat) => (d : Int) - 1
  pile : pileF cm 20 0 [] [] = some (r2.1.map fun (d : Nat) => (d : Int) - 1)
  cl : (wsOf (leadL r2.1)).cnt.length ≤ 100 ∧ (wsOf (leadL r2.1)).b ≤ 100
  sums : ∀ k : Nat, (k : Int) < longP r2.1 + 1 → leftN k r0.1 ≤ leftN k r1.1 ∧ leftN k r1.1 ≤ leftN k r2.1
  told : ∀ r ∈ [r0, r1, r2], normEq r.1 r0.1 = r.2.1 ∧ normEq r.1 r2.1 = r.2.2

section
variable {prog : Program} {w : World} {h₀ : Heap} {mg mb : Str → Option Value} {C : Cx} {ρ : Vs}
theorem Ev0.eq {e : Expr} {d d' : D} (h : Ev0 prog w h₀ C ρ e d) (q : d = d') : Ev0 prog w h₀ C ρ e d' := q ▸ h

theorem ForD.less {t : Expr} {body : List Stmt} {ds : List D} {ρ' ρ'' : Vs} (h : ForD prog w h₀ C ρ t body ds (.next ρ')) (hs : ∀ p ∈ ρ'', p ∈ ρ') : ForD prog w h₀ C ρ t body ds (.next ρ'') := fun I s G nX n0 H T =>
  codeAny_mono (h I s G nX n0 H T) fun r s' z => by
    cases r with
    | error e => exact z
    | ok f => exact ⟨z.1, z.2.1, z.2.2.sub hs⟩

theorem law2_body (KX : (KK w).In h₀) (lim : h₀.NoLimit) (G : h₀.Ns mainGlobals mg) (B : h₀.Ns builtinsNs mb) (bi : Bis mb) (script : List Int) (hsc : script.length ≤ 63) {r0 r1 r2 : RunT}
    (F : Facts (comersOf (nums2 script)) (script.sum.fdiv 3) r0 r1 r2) :
    ∀ C s, InFn C (scAt (KK w) 171) 3 → Sat0 h₀ C [("script", .list (script.map D.int))] s → wpAny (model prog w) C.A (execs (bdAt (KK w) 171) C.env) (fun f s' => KeepsW C.W s s' ∧ OutOk h₀ C (.ret (.bool true)) f s') no s := by
  have b1 : mg "range" = none := mg_none_of KX G (by kernel_rfl)
  have b2 : mg "len" = none := mg_none_of KX G (by kernel_rfl)
  have b3 : mg "max" = none := mg_none_of KX G (by kernel_rfl)
  have b4 : mg "sum" = none := mg_none_of KX G (by kernel_rfl)
  have g1 : mg "_law_run" = some (.ref 147) := mg_of KX G (by kernel_rfl)
  have g2 : mg "_law_left" = some (.ref 152) := mg_of KX G (by kernel_rfl)
  have g3 : mg "_law_pile" = some (.ref 159) := mg_of KX G (by kernel_rfl)
  have g4 : mg "_law_line" = some (.ref 166) := mg_of KX G (by kernel_rfl)
  have g5 : mg "Whitespace" = some (.ref 131) := mg_of KX G (by kernel_rfl)
  intro C s I H
  conv => arg 3; arg 1; whnf
  have hn := nums2_length script
  refine exs0 (d := .list ((nums2 script).map D.int)) ((ev0_slice (a := none) (b := some 3) (ds := script.map D.int ++ sliceL ([4, 0, 3].map D.int) (some (script.length : Int)) none) (ev0_add (by walk_at "m mem") (ev0_slice (ds := [4, 0, 3].map D.int) (a := some script.length) (b := none) (ev0_list (evs_cons ev_int (evs_cons ev_int evs_nil)) (by decide))
      (part_some ((ev_callB (ev_bi G b2 B bi.len I.scp (by kernel_rfl)) (evs_cons (ev_name (by walk_at "m mem")) evs_nil) (bi_len_list (by rw [List.length_map]; omega))).eq (by rw [List.length_map]))) part_none (by decide)) ?_) part_none (part_some ev_int) ?_).eq ?_) (I.sto _ (by kernel_rfl)) (swaps_of I.scp (by with_unfolding_all rfl)) ?_ H
  · have := sliceL_length ([4, 0, 3].map D.int) (some script.length) none
    rw [sizeLine_eq]; simp only [List.length_map, List.length_cons, List.length_nil] at this ⊢; omega
  · have := sliceL_length ([4, 0, 3].map D.int) (some script.length) none
    rw [sizeLine_eq, List.length_append]; simp only [List.length_map, List.length_cons, List.length_nil] at this ⊢; omega
  · unfold nums2
    rw [sliceL_map, List.map_append, sliceL_map]
  clear H
  generalize hnums : nums2 script = nums at *
  generalize hcm : comersOf nums = cm at *
  have hm0 : 0 ≤ nums.sum.fmod 3 := Int.fmod_nonneg_of_pos _ (by decide)
  have hm1 : nums.sum.fmod 3 < 3 := Int.fmod_lt_of_pos _ (by decide)
  have hl4 : cm.length = 4 := by rw [← hcm]; unfold comersOf; rw [List.length_cons, List.length_map, hn]
  have hc2 : ∀ k, cm.getD k 0 ≤ 2 := by
    intro k
    rw [← hcm]; unfold comersOf
    cases k with
    | zero => exact Nat.le_refl _
    | succ k =>
      rw [List.getD_cons_succ, List.getD_eq_getElem?_getD, List.getElem?_map]
      cases nums[k]? with
      | none => exact Nat.zero_le _
      | some x =>
        have := Int.fmod_lt_of_pos x (b := 3) (by decide)
        show (x.fmod 3).toNat ≤ 2
        omega
  refine exs_cons (ex_asgT (d := .tup [.list (natsD cm), .str ⟨(endL2 nums).toArray⟩])
      (ev_tuple (evs_cons ((ev_bin (ev_list (evs_cons ev_int evs_nil)) (ev_comp (src := .list (nums.map D.int)) nums D.int (fun x => [.int (x.fmod 3)]) I.scp (by kernel_rfl) (ev_name (by walk_at "m mem")) (.list _) ?_ ?_) (bin_list_add ?_)).eq ?_)
        (evs_cons (ev_item_tup (ds := [.str ⟨#[10]⟩, .str ⟨#[13]⟩, .str ⟨#[13, 10]⟩]) (ev_tuple (evs_cons ev_str (evs_cons ev_str (evs_cons ev_str evs_nil))) (by show 3 ≤ sizeLine; decide)) (ev_bin (ev_callB (ev_bi G b4 B bi.sum I.scp (by kernel_rfl)) (evs_cons (ev_name (by walk_at "m mem")) evs_nil) bi_sum) ev_int (bin_mod (by decide))) hm0 (by omega) ?_) evs_nil)) (by show 2 ≤ sizeLine; decide))
      (asg_two (I.sto _ (by kernel_rfl)) (I.sto _ (by kernel_rfl))) (swapsSole_of I.scp (by with_unfolding_all rfl)) (swapped_of I.scp (by with_unfolding_all rfl))) ?_
  · rw [flat_one, List.length_map, sizeLine_eq]; omega
  · intro x hx Cc J
    exact turn_all (asg_name (J.sto _ (by kernel_rfl))) (cap_put (by kernel_rfl)) (ev_bin (ev_name (by walk_at "m mem")) ev_int (bin_mod (by decide)))
  · rw [flat_one, List.length_map, sizeLine_eq]; simp only [List.length_cons, List.length_nil]; omega
  · rw [flat_one, ← hcm]
    unfold comersOf natsD
    rw [List.map_cons, List.map_map]
    refine congrArg D.list (congrArg (List.cons _) (List.map_congr_left fun x _ => ?_))
    have := Int.fmod_nonneg_of_pos x (b := 3) (by decide)
    show D.int _ = D.int ((x.fmod 3).toNat : Int)
    rw [Int.toNat_of_nonneg this]
  · unfold endL2
    generalize nums.sum.fmod 3 = m at *
    rcases (by omega : m = 0 ∨ m = 1 ∨ m = 2) with rfl | rfl | rfl <;> rfl
  obtain ⟨e0, e1, e2, f0, f1, f2, hline, hpile, hcl, hsums, htold⟩ := F
  have hroom : Room C.A 3 := I.room
  have hu : C.A.units + 64 < cLine := by have := hroom.units; omega
  have fit : ∀ r ∈ [r0, r1, r2], fitB r.1 = true := by
    intro r hr
    simp only [List.mem_cons, List.not_mem_nil, or_false] at hr
    rcases hr with rfl | rfl | rfl <;> assumption
  have fit2 : ∀ ds ∈ [r0.1, r2.1], fitB ds = true := by
    intro r hr
    simp only [List.mem_cons, List.not_mem_nil, or_false] at hr
    rcases hr with rfl | rfl <;> assumption
  refine exs_cons (ex_comp (src := .tup [.int (-1), .int 0, .int 1]) [((-1 : Int), r0), (0, r1), (1, r2)] (fun p => .int p.1) (fun p => [runD p.2]) I.scp (by kernel_rfl) (ev_tuple (evs_cons (ev_neg ev_int) (evs_cons ev_int (evs_cons ev_int evs_nil))) (by show 3 ≤ sizeLine; decide)) (.tup _) (by show 3 ≤ sizeLine; decide) ?_ (I.sto _ (by kernel_rfl)) (swaps_of I.scp (by with_unfolding_all rfl))) ?_
  · intro p hp Cc J
    have hr : Room Cc.A 3 := by rw [J.A]; exact hroom
    have hrun : ∃ k o y, p.2 = (k, o, y) ∧ runR cm (pickOf p.1 (script.sum.fdiv 3)) 20 0 [] [] true true = some (k, o, y) := by
      simp only [List.mem_cons, List.not_mem_nil, or_false] at hp
      rcases hp with rfl | rfl | rfl
      · exact ⟨_, _, _, rfl, e0⟩
      · exact ⟨_, _, _, rfl, e1⟩
      · exact ⟨_, _, _, rfl, e2⟩
    obtain ⟨k, o, y, ep, er⟩ := hrun
    rw [ep]
    exact turn_all (asg_name (J.sto _ (by kernel_rfl))) (cap_put (by kernel_rfl)) (ev_callK KX (ev_glob G g1 J.scp (by kernel_rfl)) (by kernel_rfl) (evs_cons (ev_name (by walk_at "m mem")) (evs_cons (ev_name (by walk_at "m mem")) (evs_cons (ev_bin (ev_callB (ev_bi G b4 B bi.sum J.scp (by kernel_rfl)) (evs_cons (ev_name (by walk_at "m mem")) evs_nil) bi_sum) ev_int (bin_floordiv (by decide) (by decide +kernel))) (evs_cons (ev_name (by walk_at "m mem")) evs_nil)))) (run2_fn KX lim G B bi cm p.1 (script.sum.fdiv 3) (endL2 nums) (endL2_end nums) hl4 hc2 er) hr)
  change ExsD _ _ _ _ (put _ _ (.list ([r0, r1, r2].map runD))) _ _
  refine exs_cons (ex_swap2 (x := "short") (y := "wide") (a := waitsD r0.1) (b := waitsD r2.1) (ev_tuple (evs_cons ((ev_callK KX (ev_glob G g4 I.scp (by kernel_rfl)) (by kernel_rfl) (evs_cons (ev_name (by walk_at "m mem")) evs_nil) (line_fn KX lim G B bi cm hl4 hc2) (hroom.less (by decide))).eq (by rw [hline]; rfl)) (evs_cons (ev_callK KX (ev_glob G g3 I.scp (by kernel_rfl)) (by kernel_rfl) (evs_cons (ev_name (by walk_at "m mem")) evs_nil) (pile_fn KX lim G B bi cm hl4 hc2 hpile) (hroom.less (by decide))) evs_nil)) (by show 2 ≤ sizeLine; decide)) (I.sto _ (by kernel_rfl)) (I.sto _ (by kernel_rfl)) (swapsSole_of I.scp (by with_unfolding_all rfl)) (swapped_of I.scp (by with_unfolding_all rfl))) ?_
  have okR : (D.list [.list (rowsD r0.1), .list (rowsD r2.1)]).okd 2 = true := okd_list fun d hd => by
    simp only [List.mem_cons, List.not_mem_nil, or_false] at hd
    rcases hd with rfl | rfl <;> exact rows_okd _
  refine exs_cons (ex_if (c := false) ((tr_cmp (b := .list [.list (rowsD r0.1), .list (rowsD r2.1)]) (ev_list (evs_cons (ev_item_tup (k := 0) (ev_item_list (k := 0) (d := runD r0) (ev_name (by walk_at "m mem")) ev_int (by decide) (by decide) (by rfl)) ev_int (by decide) (by decide) (by rfl)) (evs_cons (ev_item_tup (k := 0) (ev_item_list (k := 2) (d := runD r2) (ev_name (by walk_at "m mem")) ev_int (by decide) (by decide) (by rfl)) ev_int (by decide) (by decide) (by rfl)) evs_nil)) (by show 2 ≤ sizeLine; decide))
    ((ev_comp (src := .tup [waitsD r0.1, waitsD r2.1]) [r0.1, r2.1] waitsD (fun ds => [.list (rowsD ds)]) I.scp (by kernel_rfl) (ev_tuple (evs_cons (ev_name (by walk_at "m mem")) (evs_cons (ev_name (by walk_at "m mem")) evs_nil)) (by show 2 ≤ sizeLine; decide)) (.tup _) (by show 2 ≤ sizeLine; decide) ?_).eq (by rfl)) (cmp_ne_data (okd_ok okR (by decide)) (okd_ok okR (by decide)) hu)).eq (by rw [okd_eq okR]; rfl)) (fun q => nomatch q) fun _ => exs_nil) ?_
  · intro ds hds Cc J
    have hf := fit2 ds hds
    have hfl := fitB_len hf
    have hfm := fitB_mem hf
    refine turn_all (asg_name (J.sto _ (by kernel_rfl))) (cap_put (by kernel_rfl)) ((ev_comp (src := waitsD ds) ds (fun (d : Nat) => D.int ((d : Int) - 1)) (fun d => [.str (rowS d)]) J.scp (by kernel_rfl) (ev_name (by walk_at "m mem")) ?_ ?_ ?_).eq (by rw [flat_one]; rfl))
    · rw [waits_map]; exact .list _
    · rw [flat_one, List.length_map, sizeLine_eq]; omega
    · intro d hd Cd K
      have hd := hfm d hd
      refine turn_all (asg_name (K.sto _ (by kernel_rfl))) (cap_put (by kernel_rfl)) ((ev_bin (ev_bin (ev_str (x := ⟨#[46]⟩)) (ev_bin (ev_name (by walk_at "m mem")) ev_int bin_add_int) (bin_str_mul (by omega) (by omega))) (ev_str (x := ⟨#[97]⟩)) (bin_add_str ?_)).eq ?_)
      · show (List.replicate _ _).toArray.size + 1 ≤ sizeLine
        rw [List.size_toArray, List.length_replicate, sizeLine_eq]; omega
      · rw [show ((d : Int) - 1 + 1).toNat = d by omega]
        refine congrArg D.str (str_ext ?_)
        show ((List.replicate d 46).toArray ++ #[97]).toList = rowL d
        unfold rowL; simp
  refine exs_cons (ex_assign (d := .list ([r0, r1, r2].map fun r => leadO r.1)) ((ev_comp (src := .list ([r0, r1, r2].map runD)) [r0, r1, r2] runD (fun r => [leadO r.1]) I.scp (by kernel_rfl) (ev_name (by walk_at "m mem")) (.list _) (by show 3 ≤ sizeLine; decide) ?_).eq (by rfl)) (I.sto _ (by kernel_rfl)) (swaps_of I.scp (by with_unfolding_all rfl))) ?_
  · intro r hr Cc J
    have hf := fit r hr
    have hfl := fitB_len hf
    have hfm := fitB_mem hf
    have hrm : Room Cc.A 2 := by rw [J.A]; exact hroom.less (by decide)
    have hll := lead_len (fun d => d) r.1 20 (fun d hd => (hfm d hd).2)
    have h97 := rows97_len 46 (fun d => d) r.1 20 (fun d hd => (hfm d hd).2)
    have h97b := rows97_len 32 (fun d => d) r.1 20 (fun d hd => (hfm d hd).2)
    have h20 : r.1.length * (20 + 1) ≤ 12 * 21 := Nat.mul_le_mul_right _ hfl
    have hfl2 : (r.1.map rowS).flatMap (·.cps.toList) = r.1.flatMap rowL := by rw [List.flatMap_map]; rfl
    have hj : Txt.join ⟨#[]⟩ (r.1.map rowS) = ⟨(r.1.flatMap rowL).toArray⟩ := str_of (by rw [join_list, hfl2])
    have hrd : rowsD r.1 = (r.1.map rowS).map D.str := by unfold rowsD; rw [List.map_map]; rfl
    refine turn_all (d' := leadO r.1) (asg_name (J.sto _ (by kernel_rfl))) (cap_put (by kernel_rfl)) (ev_callK KX (ev_glob G g5 J.scp (by kernel_rfl)) (by kernel_rfl) (evs_cons
      ((ev_replace (x := ⟨(r.1.flatMap fun d => List.replicate d 32 ++ [97]).toArray⟩) ((ev_replace (x := ⟨(r.1.flatMap rowL).toArray⟩) ((ev_methS (x := ⟨#[]⟩) ev_str (evs_cons ((ev_item_tup (k := 0) (ds := [.list (rowsD r.1), .bool r.2.1, .bool r.2.2]) (d := .list (rowsD r.1)) (ev_name (by change _ ∈ put _ _ (D.tup [.list (rowsD r.1), .bool r.2.1, .bool r.2.2]); walk_at "m mem")) ev_int (by decide) (by decide) (by rfl)).eq (congrArg D.list hrd)) evs_nil) F.slot_str_join F.type_str_join (bi_join (joinOk_list _ (by rw [hfl2]; unfold rowL; omega)))).eq (congrArg D.str hj)) (by decide +kernel) ?_).eq (congrArg D.str (blank_rows r.1))) (by decide +kernel) ?_).eq (congrArg D.str (tab_rows (fun d => d) r.1))) evs_nil)
      (white2_new KX lim G B bi (leadL r.1) (leadL_chars (fun d => d) r.1) (by unfold leadL; omega)) hrm)
    · show (List.toArray _).size + ((List.toArray _).size + 1) * 1 ≤ _
      rw [List.size_toArray]; unfold rowL; omega
    · show (List.toArray _).size + ((List.toArray _).size + 1) * 1 ≤ _
      rw [List.size_toArray]; omega
  have hlg : 0 ≤ longP r2.1 := by unfold longP; omega
  have hlg2 : longP r2.1 ≤ 100 := by unfold longP; omega
  have el : ∀ {C : Cx} {ρ : Vs} {e1 : Expr} {p1 p2 : Pos} {i : Int} {c : Nat} {r : RunT}, EvD prog w h₀ C ρ e1 (.list ([r0, r1, r2].map fun r => leadO r.1)) → 0 ≤ i → i < 3 → [r0, r1, r2][i.toNat]? = some r → EvD prog w h₀ C ρ (.Subscript e1 (.Constant (.int i) c p1) p2) (leadO r.1) := fun h hi0 hi3 hr =>
    ev_item_list h ev_int hi0 (by omega) (by rw [List.getElem?_map, hr]; rfl)
  refine exs_cons (ρ' := [("leads", .list ([r0, r1, r2].map fun r => leadO r.1)), ("runs", .list ([r0, r1, r2].map runD))]) (ex_for (src := .range 0 ((longP r2.1 + 1).toNat : Nat)) (ds := (List.range (longP r2.1 + 1).toNat).map fun (k : Nat) => D.int k) (ev_callT (ev_bi G b1 B bi.range I.scp (by kernel_rfl)) (evs_cons ((ev_bin (ev_meth0 (ns := wsNames) (vs := wsVals (leadL r2.1)) KX clsOk2 (el (r := r2) (ev_name (by walk_at "m mem")) (by decide) (by decide) (by rfl)) (f := 93) (by kernel_rfl) (by kernel_rfl) (by kernel_rfl) (by decide +kernel) (long_fn KX lim G B bi r2.1 (by omega)) (hroom.less (by decide))) ev_int bin_add_int).eq (by rw [Int.toNat_of_nonneg (by omega)])) evs_nil) bi_range1) (iter_upto _ (by omega)) ?_) ?_
  · suffices go : ∀ (ks : List Nat), (∀ k ∈ ks, (k : Int) < longP r2.1 + 1) → ForD prog w h₀ C [("leads", .list ([r0, r1, r2].map fun r => leadO r.1)), ("runs", .list ([r0, r1, r2].map runD)), ("short", waitsD r0.1), ("wide", waitsD r2.1)] _ _ (ks.map fun (k : Nat) => D.int k) (.next [("leads", .list ([r0, r1, r2].map fun r => leadO r.1)), ("runs", .list ([r0, r1, r2].map runD)), ("short", waitsD r0.1), ("wide", waitsD r2.1)]) from
      ((go (List.range (longP r2.1 + 1).toNat) (fun k hk => by have := List.mem_range.mp hk; omega)).less (by walk_at "m sub")).sub (by walk_at "m sub")
    intro ks
    induction ks with
    | nil => intro _; exact for_nil
    | cons k ks ih =>
      intro hk
      have hk1 := hk k (.head _)
      obtain ⟨q1, q2⟩ := hsums k hk1
      refine for_next (ρ'' := [("leads", .list ([r0, r1, r2].map fun r => leadO r.1)), ("runs", .list ([r0, r1, r2].map runD)), ("short", waitsD r0.1), ("wide", waitsD r2.1)]) (fun J => asg_name ((I.also J).sto _ (by kernel_rfl))) (fun J => ?_) (ih fun j hj => hk j (.tail _ hj))
      refine exs_cons (ex_comp (src := .list ([r0, r1, r2].map runD)) [r0, r1, r2] runD (fun r => [.int (leftN k r.1 : Nat)]) (I.also J).scp (by kernel_rfl) (ev_name (by walk_at "m mem")) (.list _) (by show 3 ≤ sizeLine; decide) ?_ ((I.also J).sto _ (by kernel_rfl)) (swaps_of (I.also J).scp (by with_unfolding_all rfl))) ?_
      · intro r hr Cc Jc
        have hf := fit r hr
        have hrm : Room Cc.A 3 := by rw [Jc.A]; exact hroom
        exact turn_all (asg_name (Jc.sto _ (by kernel_rfl))) (cap_put (by kernel_rfl)) (ev_callK KX (ev_glob G g2 Jc.scp (by kernel_rfl)) (by kernel_rfl) (evs_cons (ev_item_tup (k := 0) (ds := [.list (rowsD r.1), .bool r.2.1, .bool r.2.2]) (d := .list (rowsD r.1)) (ev_name (by change _ ∈ put _ _ (D.tup [.list (rowsD r.1), .bool r.2.1, .bool r.2.2]); walk_at "m mem")) ev_int (by decide) (by decide) (by rfl)) (evs_cons (ev_name (by walk_at "m mem")) evs_nil)) (left_fn KX lim G B bi r.1 k hf) hrm)
      change ExsD _ _ _ _ (put _ _ (.list [.int (leftN k r0.1 : Nat), .int (leftN k r1.1 : Nat), .int (leftN k r2.1 : Nat)])) _ _
      refine exs_cons (ex_comp (src := .tup [waitsD r0.1, waitsD r2.1]) [r0.1, r2.1] waitsD (fun ds => [.int (leftN k ds : Nat)]) (I.also J).scp (by kernel_rfl) (ev_tuple (evs_cons (ev_name (by walk_at "m mem")) (evs_cons (ev_name (by walk_at "m mem")) evs_nil)) (by show 2 ≤ sizeLine; decide)) (.tup _) (by show 2 ≤ sizeLine; decide) ?_ ((I.also J).sto _ (by kernel_rfl)) (swaps_of (I.also J).scp (by with_unfolding_all rfl))) ?_
      · intro ds hds Cc Jc
        have hfl := fitB_len (fit2 ds hds)
        refine turn_all (asg_name (Jc.sto _ (by kernel_rfl))) (cap_put (by kernel_rfl)) (ev_callB (ev_bi G b4 B bi.sum Jc.scp (by kernel_rfl)) (evs_cons ((ev_comp (src := waitsD ds) ds (fun (d : Nat) => D.int ((d : Int) - 1)) (fun (d : Nat) => [.int (max ((d : Int) - 1 + 1 - k) 0)]) Jc.scp (by kernel_rfl) (ev_name (by walk_at "m mem")) (by rw [waits_map]; exact .list _) ?_ ?_).eq (d' := .list ((ds.map fun (d : Nat) => max ((d : Int) - 1 + 1 - k) 0).map D.int)) (by rw [flat_one, List.map_map]; rfl)) evs_nil) (BiD.eq' bi_sum (left_ints k ds)))
        · rw [flat_one, List.length_map, sizeLine_eq]; omega
        · intro d hd Cd K
          exact turn_all (asg_name (K.sto _ (by kernel_rfl))) (cap_put (by kernel_rfl)) (ev_callB (ev_bi G b3 B bi.max K.scp (by kernel_rfl)) (evs_cons (ev_bin (ev_bin (ev_name (by walk_at "m mem")) ev_int bin_add_int) (ev_name (by walk_at "m mem")) bin_sub_int) (evs_cons ev_int evs_nil)) bi_max2)
      change ExsD _ _ _ _ (put _ _ (.list [.int (leftN k r0.1 : Nat), .int (leftN k r2.1 : Nat)])) _ _
      have ok2 : (D.list [.int (leftN k r0.1 : Nat), .int (leftN k r2.1 : Nat)]).okd 1 = true := okd_list fun d hd => by
        simp only [List.mem_cons, List.not_mem_nil, or_false] at hd
        rcases hd with rfl | rfl <;> exact okd_int _ _
      have hu2 : (C.also J).A.units + 64 < cLine := hu
      have q1' : ((leftN k r0.1 : Nat) : Int) ≤ (leftN k r1.1 : Nat) := by omega
      have q2' : ((leftN k r1.1 : Nat) : Int) ≤ (leftN k r2.1 : Nat) := by omega
      refine (exs_cons (ex_if (c := false) ((tr_or2 (a := false) (b := false) ((tr_cmp (ev_list (evs_cons (ev_item_list (k := 0) (ev_name (by walk_at "m mem")) ev_int (by decide) (by decide) (by rfl)) (evs_cons (ev_item_list (k := 2) (ev_name (by walk_at "m mem")) ev_int (by decide) (by decide) (by rfl)) evs_nil)) (by show 2 ≤ sizeLine; decide)) (ev_name (by walk_at "m mem")) (cmp_ne_data (okd_ok ok2 (by decide)) (okd_ok ok2 (by decide)) hu2)).eq (by rw [okd_eq ok2]; rfl))
        fun _ => (tr_not (tr_chain2 (ev_item_list (k := 0) (d := .int (leftN k r0.1 : Nat)) (ev_name (by walk_at "m mem")) ev_int (by decide) (by decide) (by rfl)) (ev_item_list (k := 1) (d := .int (leftN k r1.1 : Nat)) (ev_name (by walk_at "m mem")) ev_int (by decide) (by decide) (by rfl)) (ev_item_list (k := 2) (d := .int (leftN k r2.1 : Nat)) (ev_name (by walk_at "m mem")) ev_int (by decide) (by decide) (by rfl)) cmp_le_int cmp_le_int)).eq (by rw [decide_eq_true q1', decide_eq_true q2']; rfl)).eq rfl) (fun q => nomatch q) fun _ => exs_nil) exs_nil).less (by walk_at "m sub")
  refine exs_cons (ex_comp (src := .list ([r0, r1, r2].map fun r => leadO r.1)) [r0, r1, r2] (fun r => leadO r.1) (fun r => [.tup [.bool r.2.1, .bool r.2.2]]) I.scp (by kernel_rfl) (ev_name (by walk_at "m mem")) (.list _) (by show 3 ≤ sizeLine; decide) ?_ (I.sto _ (by kernel_rfl)) (swaps_of I.scp (by with_unfolding_all rfl))) ?_
  · intro r hr Cc J
    obtain ⟨t1, t2⟩ := htold r hr
    have hrm : Room Cc.A 1 := by rw [J.A]; exact hroom.less (by decide)
    have elead : ∀ {ρ : Vs} {p : Pos}, (("lead" : Str), leadO r.1) ∈ ρ → EvD prog w h₀ Cc ρ (.Name "lead" p) (.obj 131 wsNames (wsVals (leadL r.1))) := fun hm => ev_name hm
    exact turn_all (asg_name (J.sto _ (by kernel_rfl))) (cap_put (by kernel_rfl)) (ev_tuple (evs_cons
      ((ev_cmp (ev_meth KX clsOk2 (elead (by walk_at "m mem")) (evs_cons (el (r := r0) (ev_name (by walk_at "m mem")) (by decide) (by decide) (by rfl)) evs_nil) (f := 107) (by kernel_rfl) (by kernel_rfl) (by kernel_rfl) (by decide +kernel) (equal_fn KX lim r.1 r0.1) hrm) ev_bool cmp_is_bool).eq (d' := .bool r.2.1) (by rw [t1]; cases r.2.1 <;> rfl))
      (evs_cons ((ev_cmp (ev_meth KX clsOk2 (elead (by walk_at "m mem")) (evs_cons (el (r := r2) (ev_name (by walk_at "m mem")) (by decide) (by decide) (by rfl)) evs_nil) (f := 107) (by kernel_rfl) (by kernel_rfl) (by kernel_rfl) (by decide +kernel) (equal_fn KX lim r.1 r2.1) hrm) ev_bool cmp_is_bool).eq (d' := .bool r.2.2) (by rw [t2]; cases r.2.2 <;> rfl)) evs_nil)) (by show 2 ≤ sizeLine; decide))
  change ExsD _ _ _ _ (put _ _ (.list ([r0, r1, r2].map fun r => D.tup [.bool r.2.1, .bool r.2.2]))) _ _
  have okT : (D.list ([r0, r1, r2].map fun r => D.tup [.bool r.2.1, .bool r.2.2])).okd 2 = true := okd_list fun d hd => by
    obtain ⟨r, _, rfl⟩ := List.mem_map.mp hd
    exact okd_tup fun d hd => by
      simp only [List.mem_cons, List.not_mem_nil, or_false] at hd
      rcases hd with rfl | rfl <;> exact okd_bool _ _
  refine exs_ret (ex_ret ((ev_cmp (ev_name (by walk_at "m mem")) ((ev_comp (src := .list ([r0, r1, r2].map runD)) [r0, r1, r2] runD (fun r => [.tup [.bool r.2.1, .bool r.2.2]]) I.scp (by kernel_rfl) (ev_name (by walk_at "m mem")) (.list _) (by show 3 ≤ sizeLine; decide) ?_).eq (d' := .list ([r0, r1, r2].map fun r => D.tup [.bool r.2.1, .bool r.2.2])) (by rfl)) (cmp_eq_data (okd_ok okT (by decide)) (okd_ok okT (by decide)) hu)).eq (by rw [okd_eq okT])))
  intro r hr Cc J
  exact turn_all (asg_name (J.sto _ (by kernel_rfl))) (cap_put (by kernel_rfl)) (ev_tuple (evs_cons (ev_item_tup (k := 1) (ds := [.list (rowsD r.1), .bool r.2.1, .bool r.2.2]) (d := .bool r.2.1) (ev_name (by change _ ∈ put _ _ (D.tup [.list (rowsD r.1), .bool r.2.1, .bool r.2.2]); walk_at "m mem")) ev_int (by decide) (by decide) (by rfl))
    (evs_cons (ev_item_tup (k := 2) (ds := [.list (rowsD r.1), .bool r.2.1, .bool r.2.2]) (d := .bool r.2.2) (ev_name (by change _ ∈ put _ _ (D.tup [.list (rowsD r.1), .bool r.2.1, .bool r.2.2]); walk_at "m mem")) ev_int (by decide) (by decide) (by rfl)) evs_nil)) (by show 2 ≤ sizeLine; decide))
end
end Mine

set_option Elab.async false
set_option linter.unusedVariables false
set_option linter.unusedSimpArgs false
set_option maxRecDepth 100000
set_option maxHeartbeats 8000000
namespace Mine

/-! all draws -/
def choices (t : List Nat) : List Nat := (List.range t.length).filter fun i => i == 0 || !(t.getD i 0 == t.getD (i - 1) 0)
theorem erase_same (t : List Nat) : ∀ i : Nat, i + 1 < t.length → t.getD (i + 1) 0 = t.getD i 0 → t.eraseIdx (i + 1) = t.eraseIdx i := by
  induction t with
  | nil => intro i h; simp at h
  | cons a t ih =>
    intro i h e
    cases i with
    | zero =>
      cases t with
      | nil => simp at h
      | cons b t =>
        have : b = a := by simpa using e
        subst this; rfl
    | succ i =>
      rw [List.getD_cons_succ, List.getD_cons_succ] at e
      rw [List.eraseIdx_cons_succ, List.eraseIdx_cons_succ, ih i (by simpa using h) e]
theorem choice_ex (t : List Nat) : ∀ b : Nat, b < t.length → ∃ c ∈ choices t, t.getD c 0 = t.getD b 0 ∧ t.eraseIdx c = t.eraseIdx b
  | 0, h => ⟨0, by unfold choices; rw [List.mem_filter, List.mem_range]; exact ⟨h, rfl⟩, rfl, rfl⟩
  | b + 1, h => by
    by_cases e : t.getD (b + 1) 0 = t.getD b 0
    · obtain ⟨c, h1, h2, h3⟩ := choice_ex t b (by omega)
      exact ⟨c, h1, h2.trans e.symm, h3.trans (erase_same t b h e).symm⟩
    · refine ⟨b + 1, ?_, rfl, rfl⟩
      unfold choices
      rw [List.mem_filter, List.mem_range]
      refine ⟨h, ?_⟩
      rw [show b + 1 - 1 = b by omega, beq_eq_false_iff_ne.mpr e]
      rfl
def allR (cm : List Nat) : Nat → Nat → List Nat → List Nat → Bool → Bool → List (Option RunT)
  | 0, _, _, _, _, _ => [none]
  | f + 1, h, tr, kept, o, y => if (decide (h < 4) || !tr.isEmpty) = true then
      (if (tr ++ List.replicate (cm.getD h 0) 1).isEmpty = true then allR cm f (h + 1) (tr ++ List.replicate (cm.getD h 0) 1) kept o y
       else (choices (tr ++ List.replicate (cm.getD h 0) 1)).flatMap fun b => allR cm f (h + 1) (((tr ++ List.replicate (cm.getD h 0) 1).eraseIdx b).map (· + 1)) (kept ++ [(tr ++ List.replicate (cm.getD h 0) 1).getD b 0])
         (o && !(tr ++ List.replicate (cm.getD h 0) 1).any fun x => decide ((tr ++ List.replicate (cm.getD h 0) 1).getD b 0 < x))
         (y && !(tr ++ List.replicate (cm.getD h 0) 1).any fun x => decide (x < (tr ++ List.replicate (cm.getD h 0) 1).getD b 0)))
    else [some (kept, o, y)]
theorem runR_mem (cm : List Nat) (pick : Nat → List Nat → Nat) (hp : ∀ h t, t.length ≠ 0 → pick h t < t.length) : ∀ (f h : Nat) (tr kept : List Nat) (o y : Bool), runR cm pick f h tr kept o y ∈ allR cm f h tr kept o y
  | 0, _, _, _, _, _ => .head _
  | f + 1, h, tr, kept, o, y => by
    unfold runR allR
    split
    · split
      · exact runR_mem cm pick hp f _ _ _ _ _
      · rename_i hne
        generalize tr ++ List.replicate (cm.getD h 0) 1 = t at *
        have hl : t.length ≠ 0 := fun q => hne (by rw [List.eq_nil_of_length_eq_zero q]; rfl)
        obtain ⟨c, h1, h2, h3⟩ := choice_ex t (pick h t) (hp h t hl)
        refine List.mem_flatMap.mpr ⟨c, h1, ?_⟩
        rw [← h2, ← h3]
        exact runR_mem cm pick hp f _ _ _ _ _
    · exact .head _

/-! leads in short -/
def hist (ds : List Nat) : List Nat := ds.foldl cntUp []
theorem wsRun_row (d : Nat) : ∀ (r : List Nat) (s : WS), wsRun (List.replicate d 32 ++ 9 :: r) s = wsRun r ⟨cntUp s.cnt (s.b + d), 0, s.n + d + 1, s.nt + 1⟩ := by
  induction d with
  | zero => intro r s; rfl
  | succ d ih =>
    intro r s
    rw [List.replicate_succ, List.cons_append, wsRun, if_pos rfl, ih]
    show wsRun r ⟨cntUp s.cnt (s.b + 1 + d), 0, s.n + 1 + d + 1, s.nt + 1⟩ = wsRun r ⟨cntUp s.cnt (s.b + (d + 1)), 0, s.n + (d + 1) + 1, s.nt + 1⟩
    rw [show s.b + 1 + d = s.b + (d + 1) by omega, show s.n + 1 + d + 1 = s.n + (d + 1) + 1 by omega]
theorem wsRun_leads : ∀ (ds : List Nat) (s : WS), s.b = 0 → (wsRun (leadL ds) s).cnt = ds.foldl cntUp s.cnt ∧ (wsRun (leadL ds) s).b = 0
  | [], s, h => ⟨rfl, h⟩
  | d :: ds, s, h => by
    have e : leadL (d :: ds) = List.replicate d 32 ++ 9 :: leadL ds := by unfold leadL; rw [List.flatMap_cons, List.append_assoc]; rfl
    rw [e, wsRun_row]
    have := wsRun_leads ds ⟨cntUp s.cnt (s.b + d), 0, s.n + d + 1, s.nt + 1⟩ rfl
    rw [h, Nat.zero_add] at this ⊢
    exact this
theorem ws_hist (ds : List Nat) : (wsOf (leadL ds)).cnt = hist ds ∧ (wsOf (leadL ds)).b = 0 := wsRun_leads ds ⟨[], 0, 0, 0⟩ rfl

def chkRun (h0 h2 : List Nat) (r : RunT) : Bool := ((hist r.1 == h0) == r.2.1) && ((hist r.1 == h2) == r.2.2)
def chkDrawn (k0 k2 h0 h2 : List Nat) (r : RunT) : Bool := fitB r.1 && chkRun h0 h2 r && (List.range (h2.length)).all fun k => decide (leftN k k0 ≤ leftN k r.1) && decide (leftN k r.1 ≤ leftN k k2)
def chkEnds (cm : List Nat) (r0 r2 : RunT) : Bool := fitB r0.1 && fitB r2.1 && (lineOut cm [0, 1, 2, 3] (-1, [])).2 == (r0.1.map fun (d : Nat) => (d : Int) - 1) && (pileF cm 20 0 [] [] == some (r2.1.map fun (d : Nat) => (d : Int) - 1)) &&
  decide (1 ≤ (hist r2.1).length) && decide ((hist r2.1).length ≤ 100) && chkRun (hist r0.1) (hist r2.1) r0 && chkRun (hist r0.1) (hist r2.1) r2
def chk (cm : List Nat) : Bool := match runR cm (fun _ t => bestF t (-1)) 20 0 [] [] true true, runR cm (fun _ t => bestF t 1) 20 0 [] [] true true with
  | some r0, some r2 => chkEnds cm r0 r2 && (allR cm 20 0 [] [] true true).all fun r => match r with
    | some r => chkDrawn r0.1 r2.1 (hist r0.1) (hist r2.1) r
    | none => false
  | _, _ => false
theorem chk_aa : ((List.range 3).all fun c => chk [2, 0, 0, c]) = true := by decide +kernel
theorem chk_ab : ((List.range 3).all fun c => chk [2, 0, 1, c]) = true := by decide +kernel
theorem chk_ac : ((List.range 3).all fun c => chk [2, 0, 2, c]) = true := by decide +kernel
theorem chk_ba : ((List.range 3).all fun c => chk [2, 1, 0, c]) = true := by decide +kernel
theorem chk_bb : ((List.range 3).all fun c => chk [2, 1, 1, c]) = true := by decide +kernel
theorem chk_bc : ((List.range 3).all fun c => chk [2, 1, 2, c]) = true := by decide +kernel
theorem chk_ca : ((List.range 3).all fun c => chk [2, 2, 0, c]) = true := by decide +kernel
theorem chk_cb : ((List.range 3).all fun c => chk [2, 2, 1, c]) = true := by decide +kernel
theorem chk_cc : ((List.range 3).all fun c => chk [2, 2, 2, c]) = true := by decide +kernel
theorem chk_all (a b c : Nat) (ha : a < 3) (hb : b < 3) (hc : c < 3) : chk [2, a, b, c] = true := by
  have key : ((List.range 3).all fun c => chk [2, a, b, c]) = true := by
    rcases (by omega : a = 0 ∨ a = 1 ∨ a = 2) with rfl | rfl | rfl <;> rcases (by omega : b = 0 ∨ b = 1 ∨ b = 2) with rfl | rfl | rfl
    · exact chk_aa
    · exact chk_ab
    · exact chk_ac
    · exact chk_ba
    · exact chk_bb
    · exact chk_bc
    · exact chk_ca
    · exact chk_cb
    · exact chk_cc
  exact List.all_eq_true.mp key c (List.mem_range.mpr hc)
theorem normEq_hist (a b : List Nat) : normEq a b = (hist a == hist b) := by
  unfold normEq
  rw [(ws_hist a).1, (ws_hist b).1, (ws_hist a).2, (ws_hist b).2]
  simp
theorem longP_hist (ds : List Nat) (h : 1 ≤ (hist ds).length) : longP ds = (hist ds).length - 1 := by
  unfold longP
  rw [(ws_hist ds).1, (ws_hist ds).2]
  omega
theorem chkRun_told {h0 h2 : List Nat} {r : RunT} {k0 k2 : List Nat} (e0 : hist k0 = h0) (e2 : hist k2 = h2) (h : chkRun h0 h2 r = true) : normEq r.1 k0 = r.2.1 ∧ normEq r.1 k2 = r.2.2 := by
  unfold chkRun at h
  rw [Bool.and_eq_true, beq_iff_eq, beq_iff_eq] at h
  rw [normEq_hist, normEq_hist, e0, e2]
  exact h
theorem pick_side (side picks : Int) (h : side ≠ 0) : pickOf side picks = fun _ t => bestF t side := by
  funext a t
  unfold pickOf
  rw [if_neg h]
theorem facts_of {cm : List Nat} (picks : Int) (h : chk cm = true) : ∃ r0 r1 r2, Facts cm picks r0 r1 r2 := by
  unfold chk at h
  split at h
  · rename_i r0 r2 e0 e2
    rw [Bool.and_eq_true] at h
    obtain ⟨hE, hA⟩ := h
    have hmem := runR_mem cm (pickOf 0 picks) (fun h t ht => pickOf_lt ht) 20 0 [] [] true true
    have hA := List.all_eq_true.mp hA _ hmem
    cases e1 : runR cm (pickOf 0 picks) 20 0 [] [] true true with
    | none => rw [e1] at hA; cases hA
    | some r1 =>
      rw [e1] at hA
      have hA : chkDrawn r0.1 r2.1 (hist r0.1) (hist r2.1) r1 = true := hA
      unfold chkEnds at hE
      simp only [Bool.and_eq_true, beq_iff_eq, decide_eq_true_eq] at hE
      obtain ⟨⟨⟨⟨⟨⟨⟨a1, a2⟩, a3⟩, a4⟩, a5⟩, a6⟩, a7⟩, a8⟩ := hE
      unfold chkDrawn at hA
      simp only [Bool.and_eq_true, List.all_eq_true, decide_eq_true_eq] at hA
      obtain ⟨⟨b1, b2⟩, b3⟩ := hA
      refine ⟨r0, r1, r2, ?_, e1, ?_, a1, b1, a2, a3, a4, ?_, ?_, ?_⟩
      · rw [pick_side _ _ (by decide)]; exact e0
      · rw [pick_side _ _ (by decide)]; exact e2
      · rw [(ws_hist _).1, (ws_hist _).2]; omega
      · intro k hk
        rw [longP_hist _ a5] at hk
        exact b3 k (List.mem_range.mpr (by omega))
      · intro r hr
        simp only [List.mem_cons, List.not_mem_nil, or_false] at hr
        rcases hr with rfl | rfl | rfl
        · exact chkRun_told rfl rfl a7
        · exact chkRun_told rfl rfl b2
        · exact chkRun_told rfl rfl a8
  · cases h
theorem law2_plain (script : List Int) (picks : Int) : ∃ r0 r1 r2, Facts (comersOf (nums2 script)) picks r0 r1 r2 := by
  have hn := nums2_length script
  generalize nums2 script = nums at *
  match nums, hn with
  | [x, y, z], _ =>
    have hm : ∀ x : Int, (x.fmod 3).toNat < 3 := fun x => by
      have := Int.fmod_lt_of_pos x (b := 3) (by decide)
      omega
    exact facts_of picks (chk_all _ _ _ (hm x) (hm y) (hm z))
end Mine

set_option Elab.async false
set_option linter.unusedVariables false
set_option linter.unusedSimpArgs false
set_option maxRecDepth 100000
set_option maxHeartbeats 8000000
namespace Mine
open PySem.Challenge

section
variable {prog : Program} {w : World} {h₀ : Heap} {mg mb : Str → Option Value}
theorem law_call (KX : (KK w).In h₀) (lim : h₀.NoLimit) (G : h₀.Ns mainGlobals mg) (B : h₀.Ns builtinsNs mb) (bi : Bis mb) (script : List Int) (hsc : script.length ≤ 63) {A : Around} {s : Shared} {v : Value} (R : Room A 4) (gens : s.gens = #[]) (top : ∀ b o, h₀.get? b = some o → s.heap.get? b = some o)
    (i : Is (fun _ => False) s.heap v (.list (script.map D.int))) : wpAny (model prog w) A (call (.ref 171) [v]) (fun u s' => Keeps s s' ∧ u = .bool true) no s := by
  obtain ⟨r0, r1, r2, F⟩ := law2_plain script (script.sum.fdiv 3)
  refine wpAny_mono (fn_top0 (n := 3) "script" KX lim (by kernel_rfl) ?_ (law2_body KX lim G B bi script hsc F) R gens top i) (fun u s' z => ⟨z.1, z.2.bool_inv⟩) fun _ _ z => z
  intro fd e v
  cases e; rfl
theorem well_ints {P : Params} {h : Heap} : ∀ {script : List Int} {vs : List Value}, WellAll P h vs (ofPys (script.map PyData.int)) → IsAll (fun _ => False) h vs (script.map D.int)
  | [], [], _ => .nil
  | i :: script, v :: vs, q => by
    cases q with
    | cons a b =>
      cases a
      exact .cons (.int _ _) (well_ints b)
theorem well_script {P : Params} {h : Heap} {script : List Int} {v : Value} (q : Well P h v (ofPy (.list (script.map PyData.int)))) : Is (fun _ => False) h v (.list (script.map D.int)) := by
  cases q with
  | list e r => exact .list (n := 0) (fun q => q) (by rw [e]; rfl) (well_ints r)
theorem bis_of (h : ∀ x : Str, x ≠ "__name__" → mb x = bootBuiltins x) : Bis mb :=
  ⟨(h _ (by decide +kernel)).trans (by kernel_rfl), (h _ (by decide +kernel)).trans (by kernel_rfl), (h _ (by decide +kernel)).trans (by kernel_rfl), (h _ (by decide +kernel)).trans (by kernel_rfl), (h _ (by decide +kernel)).trans (by kernel_rfl), (h _ (by decide +kernel)).trans (by kernel_rfl), (h _ (by decide +kernel)).trans (by kernel_rfl)⟩
theorem post_ok {l : OpenLaw} {args ds : List WData} : l.row.claim.post args (.bool true) ds = true := by
  show (WShape.has [] (.bool true) .bool && WTm.holds [] (.eq .res (.lit (.bool true))) { args := args, res := some (.bool true), after := ds }) = true
  unfold WTm.holds
  kernel_rfl
theorem room_caller : Room callerA 4 := ⟨rfl, by decide +kernel, by decide +kernel⟩
theorem law_good {c : ClaimW} {cl : Str → Option Addr} {mean : ExcName → Option Value} {args : List WData} {s₁ : Shared} {v : Value} {fa : Addr} {script : List Int} (KX : (KK w).In s₁.heap) (lim : s₁.heap.NoLimit) (G : s₁.heap.Ns mainGlobals mg) (B : s₁.heap.Ns builtinsNs mb) (hb : ∀ x : Str, x ≠ "__name__" → mb x = bootBuiltins x)
    (hmg : mg "law" = some (.ref fa)) (hg : s₁.gens = #[]) (hw : Well w.params s₁.heap v (ofPy (.list (script.map PyData.int)))) (hl : script.length ≤ 63) (p1 : ∀ cls, c.raises args cls = false) (p2 : c.post args (.bool true) args = true) :
    wpAny (model prog w) callerA (call (.ref fa) [v]) (fun v s' => GoodWG c cl mean args s₁ (.ok (.ret v)) s') (fun e s' => GoodWG c cl mean args s₁ (.error e) s') s₁ := by
  have e : mg "law" = some (.ref 171) := mg_of KX G (by kernel_rfl)
  rw [e] at hmg
  cases hmg
  refine wpAny_mono (law_call KX lim G B (bis_of hb) script hl room_caller hg (fun _ _ e => e) (well_script hw)) (fun u s' z => ?_) fun _ _ z => z.elim
  obtain ⟨k, rfl⟩ := z
  obtain ⟨h', tk, rfl, _, kk⟩ := k
  exact ⟨.inl ⟨.bool true, .bool true, [], rfl, p1, .bool true, p2, fun _ => ⟨List.nodup_nil, fun a q => nomatch q⟩⟩, .of_keep kk, rfl, .of_eq hg⟩
end
end Mine

set_option Elab.async false
set_option maxRecDepth 100000
set_option maxHeartbeats 8000000
theorem PySem.Challenge.cw_rl0057_02_holds : PySem.Challenge.rw_rl0057_02.Holds :=
  Mine.hd2 (by
    intro w s₀ s₁ mg mb G Y fa o pm cd doc dV kV ho hd hcd hD hmg hg args vals as hpre hlay hrd hwl hlo
    have KX := kIn_of Y
    refine Ground.open G ?_
    intro T B D TE TW
    clear B D TE TW Y ho hd hcd hD
    wrow_args hpre hlay hrd hwl hlo
    refine Mine.law_good KX T.nolimit T.g T.b T.builtins hmg hg (by assumption) ?_ ?_ ?_
    · omega
    · intro cls; rfl
    · exact Mine.post_ok)

