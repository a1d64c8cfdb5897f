import PyProof.Rows.All
import Wide.All
import OpenK.AllK
import Wide.FinOn
import PySem.Challenge.RW_in0038_02
set_option Elab.async false
set_option maxRecDepth 100000
section
open PySem PySem.Calls PySem.W PyProof.Rows
set_option Elab.async false
set_option autoImplicit false
set_option linter.unusedVariables false
set_option maxRecDepth 100000
namespace Mine

/-! values of the small evaluator -/
inductive V where
  | non
  | bool (b : Bool)
  | int (i : Int)
  | str (l : List Nat)
  | tup (l : List V)
  | lst (l : List V)
  | ml (i : Nat)
  | app (i : Nat)
  | rng (a b c : Int)
  | ty (n : String)
  | con (a : Nat)
  | lit (l : List Nat)

noncomputable abbrev FM := Addr → Option Obj
structure IX where
  f : Nat → Option Addr
  T : Nat
  N : Nat
noncomputable instance : CoeFun IX fun _ => Nat → Option Addr := ⟨IX.f⟩
noncomputable abbrev Loc := Str → Option V

inductive Cell where
  | list (l : List V)
  | obj
noncomputable abbrev MU := Nat → Option Cell

noncomputable abbrev listO (vs : Array Value) (n : Nat) : Obj := { cls := .type "list", data := .seq vs n }
noncomputable abbrev objO : Obj := { cls := .type "object" }
noncomputable abbrev rngO (a b c : Int) (t u v : Tok) : Obj := { cls := .type "range", dict := none, data := .fields #[.int a t, .int b u, .int c v], slots := #[] }
noncomputable abbrev appO (a : Addr) : Obj := { cls := .type "builtin_function_or_method", data := .fields #[.builtin "list.append", .ref a] }

/-- what a value of the model stands for -/
inductive R (fz : FM) (ix : IX) : Value → V → Prop
  | non : R fz ix .none .non
  | bool (b : Bool) : R fz ix (.bool b) (.bool b)
  | int (i : Int) (t : Tok) : R fz ix (.int i t) (.int i)
  | str (l : List Nat) (t : Tok) (hl : l.length ≤ sizeLine) : R fz ix (.str ⟨l.toArray⟩ t) (.str l)
  | tup {a : Addr} {o : Obj} {vs : Array Value} {n : Nat} {l : List V} : fz a = some o → o.cls = .type "tuple" → o.data = .seq vs n → vs.toList.length = l.length →
      (∀ (i : Nat) (v : Value) (x : V), vs.toList[i]? = some v → l[i]? = some x → R fz ix v x) → R fz ix (.ref a) (.tup l)
  | lst {a : Addr} {o : Obj} {vs : Array Value} {n : Nat} {l : List V} : l.length ≤ sizeLine → fz a = some o → o.cls = .type "list" → o.data = .seq vs n → vs.toList.length = l.length →
      (∀ (i : Nat) (v : Value) (x : V), vs.toList[i]? = some v → l[i]? = some x → R fz ix v x) → R fz ix (.ref a) (.lst l)
  | ml {i : Nat} {a : Addr} : ix i = some a → R fz ix (.ref a) (.ml i)
  | app {i : Nat} {a b : Addr} : ix i = some a → fz b = some (appO a) → R fz ix (.ref b) (.app i)
  | rng {a : Addr} {lo hi st : Int} {t u v : Tok} : fz a = some (rngO lo hi st t u v) → R fz ix (.ref a) (.rng lo hi st)
  | ty (n : String) : R fz ix (.type n) (.ty n)
  | con (a : Addr) : R fz ix (.ref a) (.con a)
  | lit (l : List Nat) (t : Tok) (hl : l.length ≤ sizeLine) (h0 : 0 < t) (ht : t < ix.T) : R fz ix (.str ⟨l.toArray⟩ t) (.lit l)

/-- item by item -/
noncomputable def Rs (fz : FM) (ix : IX) (vs : List Value) (l : List V) : Prop := vs.length = l.length ∧ ∀ (i : Nat) (v : Value) (x : V), vs[i]? = some v → l[i]? = some x → R fz ix v x

noncomputable def FM.le (f g : FM) : Prop := ∀ a o, f a = some o → g a = some o
noncomputable def IX.le (f g : IX) : Prop := (∀ i a, f i = some a → g i = some a) ∧ f.T ≤ g.T
theorem FM.le_refl (f : FM) : f.le f := fun _ _ e => e
theorem FM.le_trans {f g h : FM} (x : f.le g) (y : g.le h) : f.le h := fun a o e => y a o (x a o e)
theorem IX.le_refl (f : IX) : f.le f := ⟨fun _ _ e => e, Nat.le_refl _⟩

theorem R.mono {fz fz' : FM} {ix ix' : IX} {v : Value} {x : V} (h : R fz ix v x) (hf : fz.le fz') (hi : ix.le ix') : R fz' ix' v x := by
  induction h with
  | non => exact .non
  | bool b => exact .bool b
  | int i t => exact .int i t
  | str l t h => exact .str l t h
  | tup h1 h2 h3 h4 _ ih => exact .tup (hf _ _ h1) h2 h3 h4 ih
  | lst h0 h1 h2 h3 h4 _ ih => exact .lst h0 (hf _ _ h1) h2 h3 h4 ih
  | ml h => exact .ml (hi.1 _ _ h)
  | app h h' => exact .app (hi.1 _ _ h) (hf _ _ h')
  | rng h => exact .rng (hf _ _ h)
  | ty n => exact .ty n
  | con a => exact .con a
  | lit l t h h0 ht => exact .lit l t h h0 (Nat.lt_of_lt_of_le ht hi.2)
theorem R.up {fz fz' : FM} {ix : IX} {v : Value} {x : V} (h : R fz ix v x) (hf : fz.le fz') : R fz' ix v x := h.mono hf (IX.le_refl _)

/-- what a value is, by what it stands for -/
noncomputable def RI (v : Value) : V → Prop
  | .int i => ∃ t, v = .int i t
  | .str l => ∃ t, v = .str ⟨l.toArray⟩ t ∧ l.length ≤ sizeLine
  | .bool b => v = .bool b
  | .non => v = .none
  | .ty n => v = .type n
  | .con a => v = .ref a
  | _ => True
theorem R.inv {fz : FM} {ix : IX} {v : Value} {x : V} (h : R fz ix v x) : RI v x := by
  cases h with
  | non => exact rfl
  | bool b => exact rfl
  | int i t => exact ⟨t, rfl⟩
  | str l t h => exact ⟨t, rfl, h⟩
  | ty n => exact rfl
  | con a => exact rfl
  | _ => exact True.intro

theorem Rs.mono {fz fz' : FM} {ix ix' : IX} {vs : List Value} {l : List V} (h : Rs fz ix vs l) (hf : fz.le fz') (hi : ix.le ix') : Rs fz' ix' vs l :=
  ⟨h.1, fun i v x hv hx => (h.2 i v x hv hx).mono hf hi⟩
theorem Rs.up {fz fz' : FM} {ix : IX} {vs : List Value} {l : List V} (h : Rs fz ix vs l) (hf : fz.le fz') : Rs fz' ix vs l := h.mono hf (IX.le_refl _)
theorem Rs.nil {fz : FM} {ix : IX} : Rs fz ix [] [] := ⟨rfl, fun i v x h => by simp at h⟩
theorem Rs.cons {fz : FM} {ix : IX} {v : Value} {vs : List Value} {x : V} {l : List V} (h : R fz ix v x) (hs : Rs fz ix vs l) : Rs fz ix (v :: vs) (x :: l) := by
  refine ⟨by simp [hs.1], fun i u y hu hy => ?_⟩
  cases i with
  | zero => simp at hu hy; subst hu; subst hy; exact h
  | succ i => exact hs.2 i u y (by simpa using hu) (by simpa using hy)
theorem Rs.cons_inv {fz : FM} {ix : IX} {vs : List Value} {x : V} {l : List V} (h : Rs fz ix vs (x :: l)) : ∃ v vs', vs = v :: vs' ∧ R fz ix v x ∧ Rs fz ix vs' l := by
  cases vs with
  | nil => have := h.1; simp at this
  | cons v vs' =>
    refine ⟨v, vs', rfl, h.2 0 v x (by simp) (by simp), by have := h.1; simpa using this, fun i u y hu hy => h.2 (i + 1) u y (by simpa using hu) (by simpa using hy)⟩
theorem Rs.nil_inv {fz : FM} {ix : IX} {vs : List Value} (h : Rs fz ix vs []) : vs = [] := by
  have := h.1; simpa using this
theorem Rs.append {fz : FM} {ix : IX} {vs vs' : List Value} {l l' : List V} (h : Rs fz ix vs l) (h' : Rs fz ix vs' l') : Rs fz ix (vs ++ vs') (l ++ l') := by
  induction l generalizing vs with
  | nil => rw [h.nil_inv]; exact h'
  | cons x l ih =>
    obtain ⟨v, vs1, rfl, hv, hs⟩ := h.cons_inv
    exact Rs.cons hv (ih hs)
theorem Rs.get {fz : FM} {ix : IX} {vs : List Value} {l : List V} (h : Rs fz ix vs l) {i : Nat} {x : V} (hx : l[i]? = some x) : ∃ v, vs[i]? = some v ∧ R fz ix v x := by
  have hi : i < l.length := (List.getElem?_eq_some_iff.mp hx).1
  have hi' : i < vs.length := by rw [h.1]; exact hi
  exact ⟨vs[i], by simp [hi'], h.2 i _ x (by simp [hi']) hx⟩
theorem Rs.take {fz : FM} {ix : IX} {vs : List Value} {l : List V} (h : Rs fz ix vs l) (n : Nat) : Rs fz ix (vs.take n) (l.take n) := by
  refine ⟨by simp [h.1], fun i v x hv hx => ?_⟩
  rw [List.getElem?_take] at hv hx
  split at hv
  · rename_i hlt; rw [if_pos hlt] at hx; exact h.2 i v x hv hx
  · cases hv
theorem Rs.drop {fz : FM} {ix : IX} {vs : List Value} {l : List V} (h : Rs fz ix vs l) (n : Nat) : Rs fz ix (vs.drop n) (l.drop n) := by
  refine ⟨by simp [h.1], fun i v x hv hx => ?_⟩
  rw [List.getElem?_drop] at hv hx
  exact h.2 _ v x hv hx
theorem Rs.set {fz : FM} {ix : IX} {vs : List Value} {l : List V} {v : Value} {x : V} (h : Rs fz ix vs l) (n : Nat) (hv : R fz ix v x) : Rs fz ix (vs.set n v) (l.set n x) := by
  refine ⟨by simp [h.1], fun i u y hu hy => ?_⟩
  rw [List.getElem?_set] at hu hy
  split at hu
  · rename_i hn; subst hn; simp only [if_true] at hy
    split at hu
    · rename_i hl; rw [if_pos (by rw [← h.1]; exact hl)] at hy; cases hu; cases hy; exact hv
    · cases hu
  · rename_i hn; rw [if_neg hn] at hy; exact h.2 i u y hu hy

/-- the table of _translate's inner code object -/
noncomputable abbrev T81 (h : Heap) : Prop := ∃ ps, TriplesOk ps.toList ∧ h.get? 81 = some (tabObj ps)

noncomputable def Kp (b : Bool) (h h' : Heap) : Prop := ∀ a o, (b = true ∨ a ≠ 81) → h.get? a = some o → h'.get? a = some o
theorem Kp.refl (b : Bool) (h : Heap) : Kp b h h := fun _ _ _ e => e
theorem Kp.trans {b : Bool} {h h' h'' : Heap} (x : Kp b h h') (y : Kp b h' h'') : Kp b h h'' := fun a o c e => y a o c (x a o c e)
theorem Kp.of {b : Bool} {h h' : Heap} (x : ∀ a o, h.get? a = some o → h'.get? a = some o) : Kp b h h' := fun a o _ e => x a o e

/-- a step that only makes new things -/
structure Nx (b : Bool) (s : Shared) (fz : FM) (s' : Shared) (fz' : FM) : Prop where
  same : ∃ h' tk, s' = { s with heap := h', toks := tk }
  le : fz.le fz'
  fzh : ∀ a o, fz' a = some o → s'.heap.get? a = some o
  ext : ∀ a o, fz' a = some o → fz a = some o ∨ s.heap.get? a = none
  kp : Kp b s.heap s'.heap
  tab : T81 s'.heap
  tk : s.toks ≤ s'.toks

structure Base (K : Frag) (h₀ : Heap) : Prop where
  kin : K.In h₀
  nolim : h₀.NoLimit
  bn : ∃ mb, h₀.Ns builtinsNs mb ∧ ∀ x : Str, x ≠ "__name__" → mb x = bootBuiltins x
  chd : CodeHd h₀ 85 81
  bmn : ∃ mg bm ob, h₀.Ns mainGlobals mg ∧ mg "__builtins__" = some (.ref bm) ∧ bm ≠ builtinsNs ∧ h₀.get? bm = some ob ∧ ob.cls = .type "module" ∧ ob.dict = some builtinsNs ∧ ob.data = .plain

noncomputable def CellOk (fz : FM) (ix : IX) (h : Heap) (a : Addr) : Cell → Prop
  | .list l => l.length ≤ sizeLine ∧ ∃ vs n, h.get? a = some (listO vs n) ∧ Rs fz ix vs.toList l
  | .obj => h.get? a = some objO

structure LocOk (fz : FM) (ix : IX) (env : Env) (h : Heap) (m : Loc) : Prop where
  ns : ∃ mv, h.Ns env.locals mv ∧ ∀ x v, m x = some v → env.kindOf x = some .local → ∃ u, mv x = some u ∧ R fz ix u v
  cl : ∀ x v, m x = some v → (env.kindOf x = some .cell ∨ env.kindOf x = some .free) → ∃ c o u, env.cells.lookup x = some c ∧ h.get? c = some o ∧ o.data = .cell (some u) ∧ R fz ix u v

/-- a state in which an expression may be read -/
structure Rd (h₀ : Heap) (fz : FM) (ix : IX) (env : Env) (s : Shared) (m : Loc) (mu : MU) : Prop where
  ek : env.scope.kind = .function
  eg : env.globals = mainGlobals
  eb : env.builtins = builtinsNs
  base : ∀ a o, h₀.get? a = some o → fz a = some o
  fzh : ∀ a o, fz a = some o → s.heap.get? a = some o
  tab : T81 s.heap
  t81 : fz 81 = none
  loc : LocOk fz ix env s.heap m
  mus : ∀ i c, mu i = some c → ∃ a, ix i = some a ∧ CellOk fz ix s.heap a c
  t0 : 1 ≤ ix.T
  tT : ix.T ≤ s.toks
  dom : ∀ i a, ix i = some a → i < ix.N
  ixh : ∀ i a, ix i = some a → ∃ o, s.heap.get? a = some o
  inj : ∀ i k a, ix i = some a → ix k = some a → i = k
  ecd : env.scope.names.lookup ("stuff" : Str) = some .local → env.code = .ref 85

theorem ns_ne81 {h : Heap} {L : Addr} {m : Str → Option Value} (t : T81 h) (n : h.Ns L m) : L ≠ 81 := by
  rintro rfl
  obtain ⟨ps, _, e⟩ := t
  obtain ⟨o, es, ep, ho, hd, _⟩ := n
  rw [e] at ho; cases ho; cases hd
theorem cell_ne81 {h : Heap} {c : Addr} {o : Obj} {u : Option Value} (t : T81 h) (ho : h.get? c = some o) (hd : o.data = .cell u) : c ≠ 81 := by
  rintro rfl
  obtain ⟨ps, _, e⟩ := t
  rw [e] at ho; cases ho; cases hd
theorem list_ne81 {h : Heap} {c : Addr} {vs : Array Value} {n : Nat} (t : T81 h) (ho : h.get? c = some (listO vs n)) : c ≠ 81 := by
  rintro rfl
  obtain ⟨ps, _, e⟩ := t
  rw [e] at ho; cases ho
theorem obj_ne81 {h : Heap} {c : Addr} (t : T81 h) (ho : h.get? c = some objO) : c ≠ 81 := by
  rintro rfl
  obtain ⟨ps, _, e⟩ := t
  rw [e] at ho; cases ho

theorem CellOk.next {b : Bool} {fz fz' : FM} {ix : IX} {h h' : Heap} {a : Addr} {c : Cell} (x : CellOk fz ix h a c) (t : T81 h) (hf : fz.le fz') (k : Kp b h h') : CellOk fz' ix h' a c := by
  cases c with
  | list l => obtain ⟨hl, vs, n, e, r⟩ := x; exact ⟨hl, vs, n, k _ _ (.inr (list_ne81 t e)) e, r.up hf⟩
  | obj => exact k _ _ (.inr (obj_ne81 t x)) x
theorem LocOk.next {b : Bool} {fz fz' : FM} {ix : IX} {env : Env} {h h' : Heap} {m : Loc} (x : LocOk fz ix env h m) (t : T81 h) (hf : fz.le fz') (k : Kp b h h') : LocOk fz' ix env h' m := by
  obtain ⟨⟨mv, hn, hm⟩, hc⟩ := x
  have hne := ns_ne81 t hn
  refine ⟨⟨mv, hn.at' fun o e => k _ o (.inr hne) e, fun y v hy hk => ?_⟩, fun y v hy hk => ?_⟩
  · obtain ⟨u, e, r⟩ := hm y v hy hk; exact ⟨u, e, r.up hf⟩
  · obtain ⟨c, o, u, e1, e2, e3, r⟩ := hc y v hy hk
    exact ⟨c, o, u, e1, k _ _ (.inr (cell_ne81 t e2 e3)) e2, e3, r.up hf⟩

theorem Rd.next {h₀ : Heap} {b : Bool} {s s' : Shared} {fz fz' : FM} {ix : IX} {env : Env} {m : Loc} {mu : MU} (x : Rd h₀ fz ix env s m mu) (n : Nx b s fz s' fz') : Rd h₀ fz' ix env s' m mu where
  ek := x.ek
  eg := x.eg
  eb := x.eb
  base := fun a o e => n.le _ _ (x.base a o e)
  fzh := n.fzh
  tab := n.tab
  t81 := by
    cases e : fz' 81 with
    | none => rfl
    | some o =>
      rcases n.ext _ _ e with q | q
      · rw [x.t81] at q; cases q
      · obtain ⟨ps, _, e'⟩ := x.tab; rw [e'] at q; cases q
  loc := x.loc.next x.tab n.le n.kp
  mus := fun i c e => let ⟨a, e1, e2⟩ := x.mus i c e; ⟨a, e1, e2.next x.tab n.le n.kp⟩
  t0 := x.t0
  tT := Nat.le_trans x.tT n.tk
  dom := x.dom
  ixh := fun i a e => by
    obtain ⟨o, ho⟩ := x.ixh i a e
    by_cases q : a = 81
    · subst q; obtain ⟨ps, _, e'⟩ := n.tab; exact ⟨_, e'⟩
    · exact ⟨o, n.kp a o (.inr q) ho⟩
  inj := x.inj
  ecd := x.ecd

theorem Nx.refl {h₀ : Heap} {b : Bool} {s : Shared} {fz : FM} {ix : IX} {env : Env} {m : Loc} {mu : MU} (x : Rd h₀ fz ix env s m mu) : Nx b s fz s fz :=
  ⟨⟨s.heap, s.toks, rfl⟩, FM.le_refl _, x.fzh, fun _ _ e => .inl e, Kp.refl _ _, x.tab, Nat.le_refl _⟩
theorem Nx.trans {b : Bool} {s s' s'' : Shared} {fz fz' fz'' : FM} (x : Nx b s fz s' fz') (y : Nx b s' fz' s'' fz'') : Nx b s fz s'' fz'' where
  same := by obtain ⟨h', tk, rfl⟩ := x.same; obtain ⟨h'', tk', rfl⟩ := y.same; exact ⟨h'', tk', rfl⟩
  le := FM.le_trans x.le y.le
  fzh := y.fzh
  ext := fun a o e => by
    rcases y.ext a o e with q | q
    · exact x.ext a o q
    · cases e' : s.heap.get? a with
      | none => exact .inr rfl
      | some o' =>
        by_cases h81 : a = 81
        · subst h81; obtain ⟨ps, _, e2⟩ := x.tab; rw [e2] at q; cases q
        · rw [x.kp a o' (.inr h81) e'] at q; cases q
  kp := x.kp.trans y.kp
  tab := y.tab
  tk := Nat.le_trans x.tk y.tk
/-- tokens alone -/
theorem Nx.toks {h₀ : Heap} {b : Bool} {s : Shared} {fz : FM} {ix : IX} {env : Env} {m : Loc} {mu : MU} (x : Rd h₀ fz ix env s m mu) (tk : Nat) (hk : s.toks ≤ tk) : Nx b s fz { s with toks := tk } fz :=
  ⟨⟨s.heap, tk, rfl⟩, FM.le_refl _, x.fzh, fun _ _ e => .inl e, Kp.refl _ _, x.tab, hk⟩
/-- a heap that has grown, nothing of it frozen -/
theorem Nx.grow {h₀ : Heap} {b : Bool} {s : Shared} {fz : FM} {ix : IX} {env : Env} {m : Loc} {mu : MU} (x : Rd h₀ fz ix env s m mu) {h' : Heap} (tk : Nat) (hk : s.toks ≤ tk) (k : ∀ a o, s.heap.get? a = some o → h'.get? a = some o) :
    Nx b s fz { s with heap := h', toks := tk } fz :=
  ⟨⟨h', tk, rfl⟩, FM.le_refl _, fun a o e => k a o (x.fzh a o e), fun _ _ e => .inl e, Kp.of k, let ⟨ps, q, e⟩ := x.tab; ⟨ps, q, k _ _ e⟩, hk⟩
noncomputable def FM.put (f : FM) (a : Addr) (o : Obj) : FM := fun b => if b = a then some o else f b
theorem FM.put_self (f : FM) (a : Addr) (o : Obj) : f.put a o a = some o := if_pos rfl
theorem FM.le_put {f : FM} {a : Addr} {o : Obj} (h : f a = none) : f.le (f.put a o) := fun b x e => by
  unfold FM.put
  by_cases q : b = a
  · subst q; rw [h] at e; cases e
  · rw [if_neg q]; exact e
/-- a heap that has grown by one thing that is frozen -/
theorem Nx.more {h₀ : Heap} {b : Bool} {s : Shared} {fz : FM} {ix : IX} {env : Env} {m : Loc} {mu : MU} (x : Rd h₀ fz ix env s m mu) {h' : Heap} (tk : Nat) (hk : s.toks ≤ tk) (k : ∀ a o, s.heap.get? a = some o → h'.get? a = some o)
    {a : Addr} {o : Obj} (hn : s.heap.get? a = none) (ho : h'.get? a = some o) :
    Nx b s fz { s with heap := h', toks := tk } (fz.put a o) ∧ fz a = none := by
  have hf : fz a = none := by
    cases e : fz a with
    | none => rfl
    | some o' => rw [x.fzh _ _ e] at hn; cases hn
  refine ⟨⟨⟨h', tk, rfl⟩, FM.le_put hf, fun c o' e => ?_, fun c o' e => ?_, Kp.of k, let ⟨ps, q, e⟩ := x.tab; ⟨ps, q, k _ _ e⟩, hk⟩, hf⟩
  · unfold FM.put at e
    by_cases q : c = a
    · subst q; rw [if_pos rfl] at e; cases e; exact ho
    · rw [if_neg q] at e; exact k _ _ (x.fzh _ _ e)
  · unfold FM.put at e
    by_cases q : c = a
    · subst q; exact .inr hn
    · rw [if_neg q] at e; exact .inl e
theorem get?_size (h : Heap) : h.get? h.objs.size = none := by
  cases e : h.get? h.objs.size with
  | none => rfl
  | some o => exact absurd (Heap.lt_size e) (Nat.lt_irrefl _)
/-- a push that is frozen -/
theorem Nx.push {h₀ : Heap} {b : Bool} {s : Shared} {fz : FM} {ix : IX} {env : Env} {m : Loc} {mu : MU} (x : Rd h₀ fz ix env s m mu) (tk : Nat) (hk : s.toks ≤ tk) (o : Obj) (hf : o.isFreed = false := by rfl) :
    Nx b s fz { s with heap := s.heap.push o, toks := tk } (fz.put s.heap.objs.size o) :=
  (Nx.more x tk hk (fun _ _ e => Heap.get?_push_of_some _ e) (get?_size _) (Heap.get?_push_size _ hf)).1

noncomputable def Room (n : Nat) (A : Around) : Prop := A.handled = none ∧ A.depth + 3 * n + 10 < recursionLimit ∧ A.units + 20 * n + 400 < cLine

/-- what stays for a whole proof -/
structure C where
  prog : Program
  w : World
  K : Frag
  h₀ : Heap
  hB : Base K h₀
/-- what stays while an expression is read -/
structure J where
  b : Bool
  n : Nat
  sc : Scope
  m : Loc
  mu : MU
  ix : IX
noncomputable abbrev C.M (c : C) : Model := model c.prog c.w

section
variable (c : C) (j : J)
/-- the tree t yields x in every state that bears m and mu, and only makes new things -/
structure EvS (t : Env → Sem Value) (x : V) : Prop where
  run : ∀ (A : Around) (env : Env) (s : Shared) (fz : FM) (Q : Value → Shared → Prop) (E : Value → Shared → Prop), Room j.n A → env.scope = j.sc → Rd c.h₀ fz j.ix env s j.m j.mu →
    (∀ v s' fz', Nx j.b s fz s' fz' → R fz' j.ix v x → Q v s') → wpAny c.M A (t env) Q E s
structure EvT (t : Env → Sem Bool) (x : Bool) : Prop where
  run : ∀ (A : Around) (env : Env) (s : Shared) (fz : FM) (Q : Bool → Shared → Prop) (E : Value → Shared → Prop), Room j.n A → env.scope = j.sc → Rd c.h₀ fz j.ix env s j.m j.mu →
    (∀ s' fz', Nx j.b s fz s' fz' → Q x s') → wpAny c.M A (t env) Q E s
structure EvL (t : Env → Sem (List Value)) (x : List V) : Prop where
  run : ∀ (A : Around) (env : Env) (s : Shared) (fz : FM) (Q : List Value → Shared → Prop) (E : Value → Shared → Prop), Room j.n A → env.scope = j.sc → Rd c.h₀ fz j.ix env s j.m j.mu →
    (∀ v s' fz', Nx j.b s fz s' fz' → Rs fz' j.ix v x → Q v s') → wpAny c.M A (t env) Q E s
/-- operations on values that are there -/
structure Op1 (f : Value → Sem Value) (a x : V) : Prop where
  run : ∀ (A : Around) (env : Env) (s : Shared) (fz : FM) (v : Value) (Q : Value → Shared → Prop) (E : Value → Shared → Prop), Room j.n A → Rd c.h₀ fz j.ix env s j.m j.mu → R fz j.ix v a →
    (∀ v s' fz', Nx j.b s fz s' fz' → R fz' j.ix v x → Q v s') → wpAny c.M A (f v) Q E s
structure OpT (f : Value → Sem Bool) (a : V) (x : Bool) : Prop where
  run : ∀ (A : Around) (env : Env) (s : Shared) (fz : FM) (v : Value) (Q : Bool → Shared → Prop) (E : Value → Shared → Prop), Room j.n A → Rd c.h₀ fz j.ix env s j.m j.mu → R fz j.ix v a →
    (∀ s' fz', Nx j.b s fz s' fz' → Q x s') → wpAny c.M A (f v) Q E s
structure Op2 (f : Value → Value → Sem Value) (a b x : V) : Prop where
  run : ∀ (A : Around) (env : Env) (s : Shared) (fz : FM) (v u : Value) (Q : Value → Shared → Prop) (E : Value → Shared → Prop), Room j.n A → Rd c.h₀ fz j.ix env s j.m j.mu → R fz j.ix v a → R fz j.ix u b →
    (∀ v s' fz', Nx j.b s fz s' fz' → R fz' j.ix v x → Q v s') → wpAny c.M A (f v u) Q E s
structure OpN (f : List Value → Sem Value) (a : List V) (x : V) : Prop where
  run : ∀ (A : Around) (env : Env) (s : Shared) (fz : FM) (vs : List Value) (Q : Value → Shared → Prop) (E : Value → Shared → Prop), Room j.n A → Rd c.h₀ fz j.ix env s j.m j.mu → Rs fz j.ix vs a →
    (∀ v s' fz', Nx j.b s fz s' fz' → R fz' j.ix v x → Q v s') → wpAny c.M A (f vs) Q E s
end
section
variable {c : C} {j : J}
noncomputable instance {t : Env → Sem Value} {x : V} : CoeFun (EvS c j t x) fun _ => ∀ (A : Around) (env : Env) (s : Shared) (fz : FM) (Q : Value → Shared → Prop) (E : Value → Shared → Prop), Room j.n A → env.scope = j.sc → Rd c.h₀ fz j.ix env s j.m j.mu →
    (∀ v s' fz', Nx j.b s fz s' fz' → R fz' j.ix v x → Q v s') → wpAny c.M A (t env) Q E s := ⟨fun h => h.run⟩
noncomputable instance {t : Env → Sem Bool} {x : Bool} : CoeFun (EvT c j t x) fun _ => ∀ (A : Around) (env : Env) (s : Shared) (fz : FM) (Q : Bool → Shared → Prop) (E : Value → Shared → Prop), Room j.n A → env.scope = j.sc → Rd c.h₀ fz j.ix env s j.m j.mu →
    (∀ s' fz', Nx j.b s fz s' fz' → Q x s') → wpAny c.M A (t env) Q E s := ⟨fun h => h.run⟩
noncomputable instance {t : Env → Sem (List Value)} {x : List V} : CoeFun (EvL c j t x) fun _ => ∀ (A : Around) (env : Env) (s : Shared) (fz : FM) (Q : List Value → Shared → Prop) (E : Value → Shared → Prop), Room j.n A → env.scope = j.sc → Rd c.h₀ fz j.ix env s j.m j.mu →
    (∀ v s' fz', Nx j.b s fz s' fz' → Rs fz' j.ix v x → Q v s') → wpAny c.M A (t env) Q E s := ⟨fun h => h.run⟩
noncomputable instance {f : Value → Sem Value} {a x : V} : CoeFun (Op1 c j f a x) fun _ => ∀ (A : Around) (env : Env) (s : Shared) (fz : FM) (v : Value) (Q : Value → Shared → Prop) (E : Value → Shared → Prop), Room j.n A → Rd c.h₀ fz j.ix env s j.m j.mu → R fz j.ix v a →
    (∀ v s' fz', Nx j.b s fz s' fz' → R fz' j.ix v x → Q v s') → wpAny c.M A (f v) Q E s := ⟨fun h => h.run⟩
noncomputable instance {f : Value → Sem Bool} {a : V} {x : Bool} : CoeFun (OpT c j f a x) fun _ => ∀ (A : Around) (env : Env) (s : Shared) (fz : FM) (v : Value) (Q : Bool → Shared → Prop) (E : Value → Shared → Prop), Room j.n A → Rd c.h₀ fz j.ix env s j.m j.mu → R fz j.ix v a →
    (∀ s' fz', Nx j.b s fz s' fz' → Q x s') → wpAny c.M A (f v) Q E s := ⟨fun h => h.run⟩
noncomputable instance {f : Value → Value → Sem Value} {a b x : V} : CoeFun (Op2 c j f a b x) fun _ => ∀ (A : Around) (env : Env) (s : Shared) (fz : FM) (v u : Value) (Q : Value → Shared → Prop) (E : Value → Shared → Prop), Room j.n A → Rd c.h₀ fz j.ix env s j.m j.mu → R fz j.ix v a → R fz j.ix u b →
    (∀ v s' fz', Nx j.b s fz s' fz' → R fz' j.ix v x → Q v s') → wpAny c.M A (f v u) Q E s := ⟨fun h => h.run⟩
noncomputable instance {f : List Value → Sem Value} {a : List V} {x : V} : CoeFun (OpN c j f a x) fun _ => ∀ (A : Around) (env : Env) (s : Shared) (fz : FM) (vs : List Value) (Q : Value → Shared → Prop) (E : Value → Shared → Prop), Room j.n A → Rd c.h₀ fz j.ix env s j.m j.mu → Rs fz j.ix vs a →
    (∀ v s' fz', Nx j.b s fz s' fz' → R fz' j.ix v x → Q v s') → wpAny c.M A (f vs) Q E s := ⟨fun h => h.run⟩
end

end Mine

end
section
open PySem PySem.Calls PySem.W PyProof.Rows
set_option Elab.async false
set_option autoImplicit false
set_option linter.unusedVariables false
set_option maxRecDepth 100000
namespace Mine
variable {c : C} {j : J}

theorem EvS.cbool {v : Bool} {k : Nat} {pos : Pos} : EvS c j (eval (.Constant (.bool v) k pos)) (.bool v) := .mk fun A env s fz Q E hA he hR h => wpAny_Constant_bool (h _ _ _ (Nx.refl hR) (.bool _))
theorem EvS.cint {i : Int} {k : Nat} {pos : Pos} : EvS c j (eval (.Constant (.int i) k pos)) (.int i) := .mk fun A env s fz Q E hA he hR h => wpAny_Constant_int (h _ _ _ (Nx.toks hR _ (by simp)) (.int _ _))
theorem EvS.cstr {x : Str} {k : Nat} {pos : Pos} (hl : x.cps.toList.length ≤ sizeLine) : EvS c j (eval (.Constant (.str x) k pos)) (.str x.cps.toList) := .mk fun A env s fz Q E hA he hR h =>
  wpAny_Constant_str (h _ _ _ (Nx.toks hR _ (by simp)) (by have := R.str (fz := fz) (ix := j.ix) x.cps.toList s.toks hl; simpa using this))

theorem wp_loadCell {M : Model} {A : Around} {E : Value → Shared → Prop} {s : Shared} {env : Env} {x : Str} {a : Addr} {o : Obj} {u : Value} {Q : Value → Shared → Prop}
    (hk : env.scope.kind = .function) (hx : env.kindOf x = some .cell ∨ env.kindOf x = some .free) (hd : (x == ("__classdict__" : Str)) = false) (hc : env.cells.lookup x = some a)
    (ho : s.heap.get? a = some o) (hu : o.data = .cell (some u)) (h : Q u s) : wpAny M A (loadName env x) Q E s := by
  have hb : env.blockKind = .function := by unfold Env.blockKind; rw [hk]; rfl
  have hann : env.scope.kind.isAnnotationScope = false := by rw [hk]; rfl
  unfold loadName
  rw [hann]
  rw [Bool.false_and, Bool.false_and, if_neg Bool.false_ne_true]
  have look : wpAny M A (cellGet a) (fun r s' => r = some u ∧ Q u s') E s := by
    unfold cellGet
    refine wpAny_bind (wpAny_load ho ?_)
    rw [hu]; exact wpAny_pure ⟨rfl, h⟩
  have cell : wpAny M A (cellOf env x) (fun b s' => b = a ∧ s' = s) E s := by unfold cellOf; rw [hc]; exact wpAny_pure ⟨rfl, rfl⟩
  rw [hb]
  rcases hx with hx | hx
  · rw [hx]
    refine wpAny_bind (wpAny_mono cell (fun b s' e => ?_) fun _ _ e => e)
    obtain ⟨rfl, rfl⟩ := e
    refine wpAny_bind (wpAny_mono look (fun r s' e => ?_) fun _ _ e => e)
    obtain ⟨rfl, e⟩ := e
    exact wpAny_pure e
  · rw [hx]
    dsimp only
    rw [hd]
    rw [if_neg Bool.false_ne_true]
    refine wpAny_bind (wpAny_mono cell (fun b s' e => ?_) fun _ _ e => e)
    obtain ⟨rfl, rfl⟩ := e
    refine wpAny_bind (wpAny_mono look (fun r s' e => ?_) fun _ _ e => e)
    obtain ⟨rfl, e⟩ := e
    exact wpAny_pure e

theorem EvS.name {x : Str} {pos : Pos} {v : V} (hm : j.m x = some v) (hk : j.sc.names.lookup x = some .local ∨ j.sc.names.lookup x = some .cell ∨ j.sc.names.lookup x = some .free)
    (hd : (x == ("__debug__" : Str)) = false) (hcd : (x == ("__classdict__" : Str)) = false) : EvS c j (eval (.Name x pos)) v := .mk fun A env s fz Q E hA he hR h => by
  refine wpAny_Name ?_ hd
  have hkind : env.kindOf x = j.sc.names.lookup x := by unfold Env.kindOf; rw [he]
  rcases hk with hk | hk
  · obtain ⟨mv, hn, hmv⟩ := hR.loc.ns
    obtain ⟨u, e, r⟩ := hmv x v hm (by rw [hkind, hk])
    exact wpAny_loadName_local hR.ek (by rw [hkind, hk]) hn e (h _ _ _ (Nx.refl hR) r)
  · obtain ⟨a, o, u, e1, e2, e3, r⟩ := hR.loc.cl x v hm (by rw [hkind]; exact hk)
    exact wp_loadCell hR.ek (by rw [hkind]; exact hk) hcd e1 e2 e3 (h _ _ _ (Nx.refl hR) r)

/-- a name of the module or of the builtins -/
theorem wp_loadGlob {M : Model} {A : Around} {E : Value → Shared → Prop} {s : Shared} {env : Env} {x : Str} {K : Frag} {h₀ : Heap} {v : Value} {Q : Value → Shared → Prop} (hB : Base K h₀) (hst : ∀ a o, h₀.get? a = some o → s.heap.get? a = some o)
    (hk : env.scope.kind = .function) (hg : env.globals = mainGlobals) (hb : env.builtins = builtinsNs) (hx : env.kindOf x = some .globalImplicit)
    (hv : nsIn K mainGlobals x = some (some v) ∨ (nsIn K mainGlobals x = some none ∧ x ≠ "__name__" ∧ bootBuiltins x = some v)) (h : Q v s) : wpAny M A (loadName env x) Q E s := by
  have hbk : env.blockKind = .function := by unfold Env.blockKind; rw [hk]; rfl
  have hann : env.scope.kind.isAnnotationScope = false := by rw [hk]; rfl
  unfold loadName
  rw [hann]
  rw [Bool.false_and, Bool.false_and, if_neg Bool.false_ne_true]
  rw [hbk, hx]
  dsimp only
  unfold loadGlobal
  rw [hg, hb]
  rcases hv with hv | ⟨hv, hne, hboot⟩
  · refine wpAny_bind ((looks_nsIn (hB.kin.keeps hst) hv).here ?_)
    exact wpAny_pure h
  · refine wpAny_bind ((looks_nsIn (hB.kin.keeps hst) hv).here ?_)
    dsimp only
    obtain ⟨mb, hnb, hmb⟩ := hB.bn
    have e : mb x = some v := by rw [hmb x hne, hboot]
    refine wpAny_bind (wpAny_nsGet (hnb.keeps hst) ?_)
    rw [e]
    exact wpAny_pure h
theorem Rd.st {h₀ : Heap} {fz : FM} {ix : IX} {env : Env} {s : Shared} {m : Loc} {mu : MU} (x : Rd h₀ fz ix env s m mu) : ∀ a o, h₀.get? a = some o → s.heap.get? a = some o := fun a o e => x.fzh _ _ (x.base _ _ e)

/-- the names of the top that stand for what they stand for -/
noncomputable def Glob (K : Frag) (x : Str) (v : Value) : Prop := nsIn K mainGlobals x = some (some v) ∨ (nsIn K mainGlobals x = some none ∧ x ≠ "__name__" ∧ bootBuiltins x = some v)
theorem wp_glob {x : Str} {pos : Pos} {v : Value} {A : Around} {env : Env} {s : Shared} {fz : FM} {Q : Value → Shared → Prop} {E : Value → Shared → Prop} (hg : Glob c.K x v) (hk : j.sc.names.lookup x = some .globalImplicit)
    (hd : (x == ("__debug__" : Str)) = false) (he : env.scope = j.sc) (hR : Rd c.h₀ fz j.ix env s j.m j.mu) (h : Q v s) : wpAny c.M A (eval (.Name x pos) env) Q E s :=
  wpAny_Name (wp_loadGlob c.hB hR.st hR.ek hR.eg hR.eb (by unfold Env.kindOf; rw [he, hk]) hg h) hd
theorem EvS.glob {x : Str} {pos : Pos} {v : Value} {y : V} (hg : Glob c.K x v) (hk : j.sc.names.lookup x = some .globalImplicit) (hd : (x == ("__debug__" : Str)) = false) (hr : ∀ fz, R fz j.ix v y) : EvS c j (eval (.Name x pos)) y := .mk fun A env s fz Q E hA he hR h =>
  wp_glob hg hk hd he hR (h _ _ _ (Nx.refl hR) (hr _))

theorem EvS.binop {l r : PySem.Expr} {op : Operator} {pos : Pos} {a b x : V} (hl : EvS c j (eval l) a) (hr : EvS c j (eval r) b) (ho : Op2 c j (binaryOp op) a b x) : EvS c j (eval (.BinOp l op r pos)) x := .mk fun A env s fz Q E hA he hR h => by
  refine wpAny_BinOp (hl A env s fz _ _ hA he hR fun v s1 fz1 n1 r1 => ?_)
  refine hr A env s1 fz1 _ _ hA he (hR.next n1) fun u s2 fz2 n2 r2 => ?_
  exact ho A env s2 fz2 v u _ _ hA ((hR.next n1).next n2) (r1.up n2.le) r2 fun w s3 fz3 n3 r3 => h _ _ _ ((n1.trans n2).trans n3) r3
theorem EvS.compare {l r : PySem.Expr} {op : CmpOp} {pos : Pos} {a b x : V} (hl : EvS c j (eval l) a) (hr : EvS c j (eval r) b) (ho : Op2 c j (compareOp op) a b x) (hm : behindInMarks op r = false) : EvS c j (eval (.Compare l [op] [r] pos)) x := .mk fun A env s fz Q E hA he hR h => by
  refine wpAny_Compare1 (hl A env s fz _ _ hA he hR fun v s1 fz1 n1 r1 => ?_) hm
  refine hr A env s1 fz1 _ _ hA he (hR.next n1) fun u s2 fz2 n2 r2 => ?_
  exact ho A env s2 fz2 v u _ _ hA ((hR.next n1).next n2) (r1.up n2.le) r2 fun w s3 fz3 n3 r3 => h _ _ _ ((n1.trans n2).trans n3) r3
theorem EvT.compare {l r : PySem.Expr} {op : CmpOp} {pos : Pos} {a b : V} {x : Bool} (hl : EvS c j (eval l) a) (hr : EvS c j (eval r) b) (ho : Op2 c j (compareOp op) a b (.bool x)) (hm : behindInMarks op r = false) {wh : Env → Sem Value} : EvT c j (fun env => isTrue (.Compare l [op] [r] pos) env (wh env)) x := .mk fun A env s fz Q E hA he hR h => by
  refine wpAny_isTrue_Compare1 (hl A env s fz _ _ hA he hR fun v s1 fz1 n1 r1 => ?_) hm
  refine hr A env s1 fz1 _ _ hA he (hR.next n1) fun u s2 fz2 n2 r2 => ?_
  refine ho A env s2 fz2 v u _ _ hA ((hR.next n1).next n2) (r1.up n2.le) r2 fun w s3 fz3 n3 r3 => ?_
  cases r3
  exact wpAny_truthy_bool (h _ _ ((n1.trans n2).trans n3))
theorem EvT.tnot {x : PySem.Expr} {pos : Pos} {b : Bool} {wh : Env → Sem Value} (h1 : EvT c j (fun env => isTrue x env (eval x env)) b) : EvT c j (fun env => isTrue (.UnaryOp .Not x pos) env (wh env)) (!b) := .mk fun A env s fz Q E hA he hR h =>
  wpAny_isTrue_Not (h1 A env s fz _ _ hA he hR fun s1 fz1 n1 => h _ _ n1)
theorem EvS.unary {x : PySem.Expr} {op : UnaryOp} {pos : Pos} {a y : V} (h1 : EvS c j (eval x) a) (ho : Op1 c j (unaryOp op) a y) : EvS c j (eval (.UnaryOp op x pos)) y := .mk fun A env s fz Q E hA he hR h =>
  wpAny_UnaryOp (h1 A env s fz _ _ hA he hR fun v s1 fz1 n1 r1 => ho A env s1 fz1 v _ _ hA (hR.next n1) r1 fun u s2 fz2 n2 r2 => h _ _ _ (n1.trans n2) r2)
theorem EvS.ifexp {t b o : PySem.Expr} {pos : Pos} {tv : Bool} {x : V} (ht : EvT c j (fun env => isTrue t env (eval t env)) tv) (hb : tv = true → EvS c j (eval b) x) (ho : tv = false → EvS c j (eval o) x) : EvS c j (eval (.IfExp t b o pos)) x := .mk fun A env s fz Q E hA he hR h => by
  refine wpAny_IfExp (ht A env s fz _ _ hA he hR fun s1 fz1 n1 => ?_)
  cases tv with
  | true => exact hb rfl A env s1 fz1 _ _ hA he (hR.next n1) fun v s2 fz2 n2 r => h _ _ _ (n1.trans n2) r
  | false => exact ho rfl A env s1 fz1 _ _ hA he (hR.next n1) fun v s2 fz2 n2 r => h _ _ _ (n1.trans n2) r
theorem EvT.ifexp {t b o : PySem.Expr} {pos : Pos} {tv x : Bool} {wh : Env → Sem Value} (ht : EvT c j (fun env => isTrue t env (eval t env)) tv) (hb : tv = true → EvT c j (fun env => isTrue b env (eval b env)) x)
    (ho : tv = false → EvT c j (fun env => isTrue o env (eval o env)) x) : EvT c j (fun env => isTrue (.IfExp t b o pos) env (wh env)) x := .mk fun A env s fz Q E hA he hR h => by
  show wpAny c.M A (do if ← isTrue t env (eval t env) then isTrue b env (eval b env) else isTrue o env (eval o env)) Q E s
  refine wpAny_bind (ht A env s fz _ _ hA he hR fun s1 fz1 n1 => ?_)
  cases tv with
  | true => exact hb rfl A env s1 fz1 _ _ hA he (hR.next n1) fun s2 fz2 n2 => h _ _ (n1.trans n2)
  | false => exact ho rfl A env s1 fz1 _ _ hA he (hR.next n1) fun s2 fz2 n2 => h _ _ (n1.trans n2)

/-- truth of what has no road of its own -/
noncomputable def plainTruth : PySem.Expr → Bool
  | .UnaryOp .Not _ _ => false
  | .BoolOp .. => false
  | .IfExp .. => false
  | .Compare .. => false
  | _ => true
theorem EvT.plain {e : PySem.Expr} {a : V} {x : Bool} (hp : plainTruth e = true) (h1 : EvS c j (eval e) a) (ho : OpT c j truthy a x) : EvT c j (fun env => isTrue e env (eval e env)) x := .mk fun A env s fz Q E hA he hR h => by
  have e1 : isTrue e env (eval e env) = (do let v ← eval e env; standAt e.pos; holding [v] (truthy v)) := by
    cases e with
    | UnaryOp op _ _ => cases op <;> first | rfl | cases hp
    | BoolOp _ _ _ => cases hp
    | IfExp _ _ _ _ => cases hp
    | Compare _ _ _ _ => cases hp
    | _ => rfl
  show wpAny c.M A (isTrue e env (eval e env)) Q E s
  rw [e1]
  refine wpAny_bind (h1 A env s fz _ _ hA he hR fun v s1 fz1 n1 r1 => ?_)
  refine wpAny_bind (wpAny_standAt (wpAny_holding ?_))
  exact ho A env s1 fz1 v _ _ hA (hR.next n1) r1 fun s2 fz2 n2 => h _ _ (n1.trans n2)

/-- and, or as a test -/
theorem EvT.boolNil {op : BoolOp} : EvT c j (fun env => allTrue op [] env) (op == .And) := .mk fun A env s fz Q E hA he hR h => wpAny_pure (h _ _ (Nx.refl hR))
theorem EvT.boolAnd {x : PySem.Expr} {rest : List PySem.Expr} {t r : Bool} (h1 : EvT c j (fun env => isTrue x env (eval x env)) t) (h2 : t = true → EvT c j (fun env => allTrue .And rest env) r) : EvT c j (fun env => allTrue .And (x :: rest) env) (t && r) := .mk fun A env s fz Q E hA he hR h => by
  show wpAny c.M A (do
    match BoolOp.And, ← isTrue x env (eval x env) with
    | .And, false => pure false
    | .Or, true => pure true
    | _, _ => allTrue .And rest env) Q E s
  refine wpAny_bind (h1 A env s fz _ _ hA he hR fun s1 fz1 n1 => ?_)
  cases t with
  | false => exact wpAny_pure (h _ _ n1)
  | true => exact h2 rfl A env s1 fz1 _ _ hA he (hR.next n1) fun s2 fz2 n2 => h _ _ (n1.trans n2)
theorem EvT.boolOr {x : PySem.Expr} {rest : List PySem.Expr} {t r : Bool} (h1 : EvT c j (fun env => isTrue x env (eval x env)) t) (h2 : t = false → EvT c j (fun env => allTrue .Or rest env) r) : EvT c j (fun env => allTrue .Or (x :: rest) env) (t || r) := .mk fun A env s fz Q E hA he hR h => by
  show wpAny c.M A (do
    match BoolOp.Or, ← isTrue x env (eval x env) with
    | .And, false => pure false
    | .Or, true => pure true
    | _, _ => allTrue .Or rest env) Q E s
  refine wpAny_bind (h1 A env s fz _ _ hA he hR fun s1 fz1 n1 => ?_)
  cases t with
  | true => exact wpAny_pure (h _ _ n1)
  | false => exact h2 rfl A env s1 fz1 _ _ hA he (hR.next n1) fun s2 fz2 n2 => h _ _ (n1.trans n2)
theorem EvT.tbool {op : BoolOp} {vs : List PySem.Expr} {pos : Pos} {x : Bool} {wh : Env → Sem Value} (h1 : EvT c j (fun env => allTrue op vs env) x) : EvT c j (fun env => isTrue (.BoolOp op vs pos) env (wh env)) x := .mk fun A env s fz Q E hA he hR h =>
  h1 A env s fz Q E hA he hR h
/-- and of two, as a value -/
theorem EvS.and2 {x y : PySem.Expr} {pos : Pos} {a r : V} {t : Bool} (h1 : EvS c j (eval x) a) (ht : OpT c j truthy a t) (h2 : t = true → EvS c j (eval y) r) (h3 : t = false → a = r) : EvS c j (eval (.BoolOp .And [x, y] pos)) r := .mk fun A env s fz Q E hA he hR h => by
  refine wpAny_And2 (h1 A env s fz _ _ hA he hR fun v s1 fz1 n1 r1 => ?_)
  refine ht A env s1 fz1 v _ _ hA (hR.next n1) r1 fun s2 fz2 n2 => ?_
  cases t with
  | true => exact h2 rfl A env s2 fz2 _ _ hA he ((hR.next n1).next n2) fun v s3 fz3 n3 r3 => h _ _ _ ((n1.trans n2).trans n3) r3
  | false => exact h _ _ _ (n1.trans n2) (h3 rfl ▸ r1.up n2.le)

/-- a list of expressions, none starred -/
noncomputable def noStar : PySem.Expr → Bool
  | .Starred .. => false
  | _ => true
theorem starEach_cons {e : PySem.Expr} {r : List PySem.Expr} {env : Env} (h : noStar e = true) : starEach (e :: r) env = (false, eval e env) :: starEach r env := by
  cases e <;> first | rfl | cases h
theorem EvL.nil {pos : Pos} : EvL c j (fun env => spliced (backTo pos (starEach [] env))) [] := .mk fun A env s fz Q E hA he hR h => wpAny_pure (h _ _ _ (Nx.refl hR) Rs.nil)
theorem EvL.cons {e : PySem.Expr} {r : List PySem.Expr} {pos : Pos} {x : V} {l : List V} (hs : noStar e = true) (h1 : EvS c j (eval e) x) (h2 : EvL c j (fun env => spliced (backTo pos (starEach r env))) l) :
    EvL c j (fun env => spliced (backTo pos (starEach (e :: r) env))) (x :: l) := .mk fun A env s fz Q E hA he hR h => by
  show wpAny c.M A (spliced (backTo pos (starEach (e :: r) env))) Q E s
  rw [starEach_cons hs]
  show wpAny c.M A (do
    let v ← eval e env
    let here ← pure [v]
    return here ++ (← holding here (spliced (backTo pos (starEach r env))))) Q E s
  refine wpAny_bind (h1 A env s fz _ _ hA he hR fun v s1 fz1 n1 r1 => ?_)
  refine wpAny_bind (wpAny_pure ?_)
  refine wpAny_bind (wpAny_holding ?_)
  refine h2 A env s1 fz1 _ _ hA he (hR.next n1) fun vs s2 fz2 n2 rs => ?_
  exact wpAny_pure (h _ _ _ (n1.trans n2) (Rs.cons (r1.up n2.le) rs))

theorem Nx.newList {h₀ : Heap} {b : Bool} {s : Shared} {fz : FM} {ix : IX} {env : Env} {m : Loc} {mu : MU} {vs : List Value} {l : List V} (hR : Rd h₀ fz ix env s m mu) (rs : Rs fz ix vs l) (hsz : l.length ≤ sizeLine) :
    Nx b s fz { s with heap := s.heap.push (listO vs.toArray 0) } (fz.put s.heap.objs.size (listO vs.toArray 0)) ∧ R (fz.put s.heap.objs.size (listO vs.toArray 0)) ix (.ref s.heap.objs.size) (.lst l) := by
  have n := Nx.push (b := b) hR s.toks (Nat.le_refl _) (listO vs.toArray 0)
  exact ⟨n, .lst hsz (FM.put_self _ _ _) rfl rfl (by simpa using rs.1) (by simpa using (rs.up n.le).2)⟩
theorem Nx.newTup {h₀ : Heap} {b : Bool} {s : Shared} {fz : FM} {ix : IX} {env : Env} {m : Loc} {mu : MU} {vs : List Value} {l : List V} (hR : Rd h₀ fz ix env s m mu) (rs : Rs fz ix vs l) :
    Nx b s fz { s with heap := s.heap.push { cls := .type "tuple", data := .seq vs.toArray } } (fz.put s.heap.objs.size { cls := .type "tuple", data := .seq vs.toArray }) ∧ R (fz.put s.heap.objs.size { cls := .type "tuple", data := .seq vs.toArray }) ix (.ref s.heap.objs.size) (.tup l) := by
  have n := Nx.push (b := b) hR s.toks (Nat.le_refl _) { cls := .type "tuple", data := .seq vs.toArray }
  exact ⟨n, .tup (FM.put_self _ _ _) rfl rfl (by simpa using rs.1) (by simpa using (rs.up n.le).2)⟩
theorem EvS.list {es : List PySem.Expr} {pos : Pos} {l : List V} (hl : EvL c j (fun env => spliced (backTo pos (starEach es env))) l) (hsz : l.length ≤ sizeLine) : EvS c j (eval (.List es pos)) (.lst l) := .mk fun A env s fz Q E hA he hR h => by
  refine List_ (hl A env s fz _ _ hA he hR fun vs s1 fz1 n1 rs => ?_)
  obtain ⟨n2, r2⟩ := Nx.newList (b := j.b) (hR.next n1) rs hsz
  exact wpAny_newObj_type (h _ _ _ (n1.trans n2) r2) (by show vs.toArray.size ≤ sizeLine; rw [List.size_toArray, rs.1]; exact hsz)
theorem EvS.tuple {es : List PySem.Expr} {k : Nat} {pos : Pos} {l : List V} (hl : EvL c j (fun env => spliced (backTo pos (starEach es env))) l) (hsz : l.length ≤ sizeLine) : EvS c j (eval (.Tuple es k pos)) (.tup l) := .mk fun A env s fz Q E hA he hR h => by
  refine Tuple_ (hl A env s fz _ _ hA he hR fun vs s1 fz1 n1 rs => ?_)
  obtain ⟨n2, r2⟩ := Nx.newTup (b := j.b) (hR.next n1) rs
  exact wpAny_newObj_type (h _ _ _ (n1.trans n2) r2) (by show vs.toArray.size ≤ sizeLine; rw [List.size_toArray, rs.1]; exact hsz)
end Mine

end
section
open PySem PySem.Calls PySem.W PyProof.Rows
set_option Elab.async false
set_option autoImplicit false
set_option linter.unusedVariables false
set_option maxRecDepth 100000
namespace Mine
variable {c : C} {j : J}

/-! what a value is made of -/
noncomputable def asL (mu : MU) : V → Option (List V)
  | .lst l => some l
  | .ml i => match mu i with
    | some (.list l) => some l
    | _ => none
  | _ => none
theorem asL_spec {h₀ : Heap} {fz : FM} {ix : IX} {env : Env} {s : Shared} {m : Loc} {mu : MU} {v : Value} {a : V} {l : List V} (hR : Rd h₀ fz ix env s m mu) (r : R fz ix v a) (e : asL mu a = some l) :
    ∃ ad vs, v = .ref ad ∧ s.heap.IsList ad (List.toArray vs) ∧ Rs fz ix vs l ∧ l.length ≤ sizeLine := by
  cases r with
  | lst h0 h1 h2 h3 h4 h5 => cases e; exact ⟨_, _, rfl, ⟨_, hR.fzh _ _ h1, h2, _, by rw [h3]⟩, ⟨h4, h5⟩, h0⟩
  | ml hi =>
    rename_i i ad
    simp only [asL] at e
    split at e
    · rename_i l' hmu
      cases e
      obtain ⟨a', e1, e2⟩ := hR.mus _ _ hmu
      rw [hi] at e1; cases e1
      obtain ⟨hl, vs, n, e3, r3⟩ := e2
      exact ⟨ad, vs.toList, rfl, ⟨_, e3, rfl, n, by simp⟩, r3, hl⟩
    · cases e
  | _ => cases e
theorem tup_spec {h₀ : Heap} {fz : FM} {ix : IX} {env : Env} {s : Shared} {m : Loc} {mu : MU} {v : Value} {l : List V} (hR : Rd h₀ fz ix env s m mu) (r : R fz ix v (.tup l)) :
    ∃ ad vs, v = .ref ad ∧ IsTup s.heap ad (List.toArray vs) ∧ Rs fz ix vs l := by
  cases r with
  | tup h1 h2 h3 h4 h5 => exact ⟨_, _, rfl, ⟨_, hR.fzh _ _ h1, h2, _, by rw [h3]⟩, ⟨h4, h5⟩⟩
theorem str_len {fz : FM} {ix : IX} {v : Value} {l : List Nat} (r : R fz ix v (.str l)) : ∃ t, v = .str ⟨l.toArray⟩ t ∧ l.length ≤ sizeLine := by cases r; exact ⟨_, rfl, by assumption⟩

/-! subscripts -/
theorem wp_getPy {M : Model} {A : Around} {E : Value → Shared → Prop} {s : Shared} {o : Value} {T id : String} {Q : Bool → Shared → Prop} (hT : s.TypeIs o T) (hl : typeLookup (.type T) "__getitem__" = pure (some (.builtin id))) (h : Q false s) :
    wpAny M A (getitemInPython o) Q E s := by
  rw [getitemInPython_of_ne hT.not_modules]
  refine wpAny_bind (wpAny_specialOf hT hl ?_)
  exact wpAny_pure h
noncomputable def notSlice : PySem.Expr → Bool
  | .Slice _ _ none _ => false
  | _ => true
theorem wp_subscripted {M : Model} {A : Around} {E : Value → Shared → Prop} {s : Shared} {sl : PySem.Expr} {o i : Value} {Q : Value → Shared → Prop} (h : wpAny M A (getItem o i) Q E s) : wpAny M A (subscripted sl false o i) Q E s := by
  unfold subscripted
  split
  · exact wpAny_operating h
  · rename_i hh; cases hh
  · exact wpAny_operating h
/-- the kind of a value that has items -/
inductive SeqV (mu : MU) : V → String → String → Prop
  | str (l : List Nat) : SeqV mu (.str l) "str" "str.__getitem__"
  | lst {a : V} {l : List V} : asL mu a = some l → SeqV mu a "list" "list.__getitem__"
  | tup (l : List V) : SeqV mu (.tup l) "tuple" "tuple.__getitem__"
theorem SeqV.look {mu : MU} {a : V} {T id : String} (h : SeqV mu a T id) : typeLookup (.type T) "__getitem__" = pure (some (.builtin id)) := by
  cases h
  · exact PySem.F.slot_str_getitem.lookup
  · exact list_getitem_lookup
  · exact slot_tuple_getitem.lookup
theorem SeqV.type {h₀ : Heap} {fz : FM} {ix : IX} {env : Env} {s : Shared} {m : Loc} {mu : MU} {v : Value} {a : V} {T id : String} (h : SeqV mu a T id) (hR : Rd h₀ fz ix env s m mu) (r : R fz ix v a) : s.TypeIs v T := by
  cases h with
  | str l => obtain ⟨t, rfl, _⟩ := str_len r; exact typeIs_str s _ t
  | lst e => obtain ⟨ad, vs, rfl, hl, _⟩ := asL_spec hR r e; exact hl.typeIs
  | tup l => obtain ⟨ad, vs, rfl, hl, _⟩ := tup_spec hR r; exact hl.typeIs
theorem EvS.item {value slice : PySem.Expr} {pos : Pos} {a b x : V} {T id : String} (hv : EvS c j (eval value) a) (hi : EvS c j (eval slice) b) (hs : SeqV j.mu a T id) (ho : Op2 c j getItem a b x) :
    EvS c j (eval (.Subscript value slice pos)) x := .mk fun A env s fz Q E hA he hR h => by
  show wpAny c.M A (eval (.Subscript value slice pos) env) Q E s
  rw [eval_Subscript]
  refine wpAny_bind (hv A env s fz _ _ hA he hR fun v s1 fz1 n1 r1 => ?_)
  refine wpAny_bind (wpAny_holding (hi A env s1 fz1 _ _ hA he (hR.next n1) fun u s2 fz2 n2 r2 => ?_))
  refine wpAny_bind (wpAny_standAt ?_)
  have hR2 := (hR.next n1).next n2
  refine wpAny_bind (wp_getPy (hs.type hR2 (r1.up n2.le)) hs.look ?_)
  refine wpAny_bind (wp_subscripted ?_)
  refine ho A env s2 fz2 v u _ _ hA hR2 (r1.up n2.le) r2 fun w s3 fz3 n3 r3 => ?_
  exact wpAny_bind (wpAny_letTemporaryGo (wpAny_pure (h _ _ _ ((n1.trans n2).trans n3) r3)))

/-- an item of a str -/
theorem Op2.item_str {l : List Nat} {i : Int} {k d : Nat} (hk : seqIndex? i l.length = some k) (hd : l[k]? = some d) (hfit : -(2 ^ 63 : Int) ≤ i ∧ i < 2 ^ 63) : Op2 c j getItem (.str l) (.int i) (.str [d]) := .mk fun A env s fz v u Q E hA hR r1 r2 h => by
  obtain ⟨t, rfl, _⟩ := str_len r1
  obtain ⟨_, rfl⟩ := r2.inv
  refine PyProof.Rows.getItem_str (c := d) ?_ ?_ (h _ _ _ (Nx.toks hR _ (by simp)) (.str [d] _ (by rw [sizeLine_eq]; simp)))
  · have h1 : ¬ i < -(2 ^ 63 : Int) := by omega
    have h2 : ¬ i ≥ (2 ^ 63 : Int) := by omega
    rw [decide_eq_false h1, decide_eq_false h2]; rfl
  · show (seqIndex? i l.toArray.size).bind _ = _
    rw [List.size_toArray, hk]; simpa using hd
theorem Op2.item_list {a : V} {l : List V} {i : Int} {k : Nat} {x : V} (hl : asL j.mu a = some l) (hk : seqIndex? i l.length = some k) (hd : l[k]? = some x) (hfit : -(2 ^ 63 : Int) ≤ i ∧ i < 2 ^ 63) : Op2 c j getItem a (.int i) x := .mk fun A env s fz v u Q E hA hR r1 r2 h => by
  obtain ⟨ad, vs, rfl, hls, rs, _⟩ := asL_spec hR r1 hl
  obtain ⟨_, rfl⟩ := r2.inv
  obtain ⟨y, hy, ry⟩ := rs.get hd
  have hlen : vs.length = l.length := rs.1
  unfold seqIndex? at hk
  by_cases h0 : i < 0
  · simp only [h0, if_true] at hk
    split at hk
    · rename_i hc
      cases hk
      simp only [Bool.and_eq_true, decide_eq_true_eq] at hc
      refine wpAny_getItem_list_neg hls h0 (by rw [List.size_toArray, hlen]; omega) hfit.1 (x := y) ?_ (h _ _ _ (Nx.refl hR) ry)
      rw [List.size_toArray, hlen]; simpa using hy
    · cases hk
  · simp only [h0, if_false] at hk
    split at hk
    · cases hk
      refine wpAny_getItem_list hls (by omega) hfit.2 (x := y) (by simpa using hy) (h _ _ _ (Nx.refl hR) ry)
    · cases hk
theorem Op2.item_tup {l : List V} {i : Int} {k : Nat} {x : V} (hk : seqIndex? i l.length = some k) (hd : l[k]? = some x) (hfit : -(2 ^ 63 : Int) ≤ i ∧ i < 2 ^ 63) : Op2 c j getItem (.tup l) (.int i) x := .mk fun A env s fz v u Q E hA hR r1 r2 h => by
  obtain ⟨ad, vs, rfl, hls, rs⟩ := tup_spec hR r1
  obtain ⟨_, rfl⟩ := r2.inv
  obtain ⟨y, hy, ry⟩ := rs.get hd
  exact getItem_tuple hls hfit.1 hfit.2 (by rw [List.size_toArray, rs.1]; exact hk) (by simpa using hy) (h _ _ _ (Nx.refl hR) ry)

/-- a bound of a slice -/
noncomputable def EvO (c : C) (j : J) : Option PySem.Expr → Option Int → Prop
  | none, none => True
  | some e, some i => EvS c j (eval e) (.int i)
  | _, _ => False
theorem EvO.part {o : Option PySem.Expr} {i : Option Int} (h : EvO c j o i) {A : Around} {env : Env} {s : Shared} {fz : FM} {Q : Value → Shared → Prop} {E : Value → Shared → Prop} (hA : Room j.n A) (he : env.scope = j.sc) (hR : Rd c.h₀ fz j.ix env s j.m j.mu)
    (hq : ∀ (p : Option (Int × Tok)) s' fz', Nx j.b s fz s' fz' → p.map (·.1) = i → Q (partValue p) s') : wpAny c.M A (evalPart o env) Q E s := by
  cases o with
  | none =>
    cases i with
    | none => rw [evalPart_none]; exact wpAny_pure (hq none _ _ (Nx.refl hR) rfl)
    | some i => exact h.elim
  | some e =>
    cases i with
    | none => exact h.elim
    | some i =>
      rw [evalPart_some]
      refine EvS.run (show EvS c j (eval e) (.int i) from h) A env s fz _ _ hA he hR fun v s1 fz1 n1 r1 => ?_
      cases r1 with
      | int _ t => exact hq (some (i, t)) _ _ n1 rfl
/-- l[lo:hi] -/
noncomputable def cut {α : Type} (l : List α) (lo hi : Option Int) : List α := (l.drop (lo.elim 0 (clipAt l.length))).take (hi.elim l.length (clipAt l.length) - lo.elim 0 (clipAt l.length))
theorem cut_length {α : Type} (l : List α) (lo hi : Option Int) : (cut l lo hi).length ≤ l.length := by
  unfold cut; exact Nat.le_trans (List.length_take_le' ..) (by rw [List.length_drop]; exact Nat.sub_le ..)
theorem partValue_isPart (p : Option (Int × Tok)) : IsPart (partValue p) (p.map (·.1)) := by
  cases p with
  | none => exact .none
  | some q => exact .int _ _
theorem sliceIdx (lo hi : Option Int) (n : Nat) : Builtin.Str.strSliceIndices lo hi 1 n = (List.range (hi.elim n (clipAt n) - lo.elim 0 (clipAt n))).map (lo.elim 0 (clipAt n) + ·) := by
  have h := sliceRange_one (lo.elim 0 (clipAt n)) (hi.elim n (clipAt n))
  rw [← h]
  unfold Builtin.Str.strSliceIndices
  cases lo <;> cases hi <;> simp [clipAt_cast]
theorem cut_str (x : Array Nat) (lo hi : Option Int) : ((Builtin.Str.strSliceIndices lo hi 1 x.size).filterMap (x[·]?)) = cut x.toList lo hi := by
  rw [sliceIdx, pick_run]
  unfold cut
  simp
theorem cut_all {α : Type} (l : List α) (lo hi : Option Int) (h : (cut l lo hi).length = l.length) : cut l lo hi = l := by
  unfold cut at *
  rw [List.length_take, List.length_drop] at h
  by_cases h0 : l.length = 0
  · have : l = [] := by simpa using h0
    subst this; simp
  · have h1 : lo.elim 0 (clipAt l.length) = 0 := by omega
    rw [h1] at h ⊢
    rw [List.drop_zero]
    exact List.take_of_length_le (by omega)
theorem cut_map {α β : Type} (f : α → β) (l : List α) (lo hi : Option Int) : cut (l.map f) lo hi = (cut l lo hi).map f := by
  unfold cut; simp [List.map_drop, List.map_take]
theorem EvS.slice_str {value : PySem.Expr} {lower upper : Option PySem.Expr} {p pos : Pos} {l : List Nat} {lo hi : Option Int} (hv : EvS c j (eval value) (.str l)) (hlo : EvO c j lower lo) (hhi : EvO c j upper hi) :
    EvS c j (eval (.Subscript value (.Slice lower upper none p) pos)) (.str (cut l lo hi)) := .mk fun A env s fz Q E hA he hR h => by
  show wpAny c.M A (eval (.Subscript value (.Slice lower upper none p) pos) env) Q E s
  rw [eval_Subscript]
  refine wpAny_bind (hv A env s fz _ _ hA he hR fun v s1 fz1 n1 r1 => ?_)
  obtain ⟨t, rfl, hsz⟩ := str_len r1
  refine wpAny_bind (wpAny_holding (wpAny_Slice ?_))
  refine hlo.part hA he (hR.next n1) fun pl s2 fz2 n2 e2 => ?_
  refine hhi.part hA he ((hR.next n1).next n2) fun pu s3 fz3 n3 e3 => ?_
  rw [evalPart_none]
  refine wpAny_pure ?_
  have hR3 := ((hR.next n1).next n2).next n3
  have n4 := Nx.grow (b := j.b) hR3 (h' := s3.heap.push { cls := .type "slice", data := .fields #[partValue pl, partValue pu, .none] }) s3.toks (Nat.le_refl _) (fun _ _ e => Heap.get?_push_of_some _ e)
  have n14 := ((n1.trans n2).trans n3).trans n4
  refine wpAny_bind (wpAny_standAt ?_)
  refine wpAny_bind (wp_getPy (typeIs_str _ _ _) PySem.F.slot_str_getitem.lookup ?_)
  refine wpAny_bind (wp_subscripted ?_)
  refine wpAny_getItem_str_slice (l := pl) (u := pu) (st := none) ⟨_, Heap.get?_push_size _ rfl, rfl, rfl⟩ rfl ?_
  have hR4 := hR3.next n4
  have key : (Builtin.Str.strSliceIndices (pl.map (·.1)) (pu.map (·.1)) 1 (Str.length ⟨l.toArray⟩)).filterMap ((⟨l.toArray⟩ : Str).cps[·]?) = cut l lo hi := by
    rw [e2, e3]; exact cut_str l.toArray lo hi
  have hpick : slicePicked ⟨l.toArray⟩ pl pu none = Builtin.Str.strSliceIndices (pl.map (·.1)) (pu.map (·.1)) 1 (Str.length ⟨l.toArray⟩) := rfl
  unfold sliceMade
  split
  · rename_i hc
    have hlen : (Builtin.Str.strSliceIndices (pl.map (·.1)) (pu.map (·.1)) 1 (Str.length ⟨l.toArray⟩)).length = l.length := by
      simp only [Bool.and_eq_true, beq_iff_eq] at hc
      rw [← hpick]; exact hc.2
    have hall : cut l lo hi = l := by
      refine cut_all l lo hi ?_
      rw [e2, e3] at hlen
      have hb : (lo.elim 0 (clipAt l.length)) ≤ l.length := by cases lo <;> simp [clipAt]; omega
      have hb2 : (hi.elim l.length (clipAt l.length)) ≤ l.length := by cases hi <;> simp [clipAt]; omega
      have hs : Str.length ⟨l.toArray⟩ = l.length := List.size_toArray ..
      rw [hs, sliceIdx, List.length_map, List.length_range] at hlen
      unfold cut
      rw [List.length_take, List.length_drop]
      omega
    show wpAny _ _ _ _ _ _
    rw [hall] at h
    exact wpAny_bind (wpAny_letTemporaryGo (wpAny_pure (h _ _ _ n14 (.str l t hsz))))
  · rw [hpick, key]
    have hc := cut_length l lo hi
    refine ⟨?_, ?_⟩
    · show (cut l lo hi).toArray.size ≤ sizeLine
      rw [List.size_toArray]; omega
    · exact wpAny_bind (wpAny_letTemporaryGo (wpAny_pure (h _ _ _ (n14.trans (Nx.toks hR4 _ (by simp))) (.str _ _ (by omega)))))
theorem Rs.cut {fz : FM} {ix : IX} {vs : List Value} {l : List V} (h : Rs fz ix vs l) (lo hi : Option Int) : Rs fz ix (cut vs lo hi) (cut l lo hi) := by
  unfold Mine.cut
  rw [h.1]
  exact (h.drop _).take _
theorem EvS.slice_list {value : PySem.Expr} {lower upper : Option PySem.Expr} {p pos : Pos} {a : V} {l : List V} {lo hi : Option Int} (hv : EvS c j (eval value) a) (hl : asL j.mu a = some l) (hlo : EvO c j lower lo) (hhi : EvO c j upper hi) :
    EvS c j (eval (.Subscript value (.Slice lower upper none p) pos)) (.lst (Mine.cut l lo hi)) := .mk fun A env s fz Q E hA he hR h => by
  show wpAny c.M A (eval (.Subscript value (.Slice lower upper none p) pos) env) Q E s
  rw [eval_Subscript]
  refine wpAny_bind (hv A env s fz _ _ hA he hR fun v s1 fz1 n1 r1 => ?_)
  refine wpAny_bind (wpAny_holding (wpAny_Slice ?_))
  refine hlo.part hA he (hR.next n1) fun pl s2 fz2 n2 e2 => ?_
  refine hhi.part hA he ((hR.next n1).next n2) fun pu s3 fz3 n3 e3 => ?_
  rw [evalPart_none]
  refine wpAny_pure ?_
  have hR3 := ((hR.next n1).next n2).next n3
  have n4 := Nx.grow (b := j.b) hR3 (h' := s3.heap.push { cls := .type "slice", data := .fields #[partValue pl, partValue pu, .none] }) s3.toks (Nat.le_refl _) (fun _ _ e => Heap.get?_push_of_some _ e)
  have hR4 := hR3.next n4
  obtain ⟨ad, vs, rfl, hls, rs, hsz⟩ := asL_spec hR4 (r1.up (FM.le_trans n2.le n3.le)) hl
  refine wpAny_bind (wpAny_standAt ?_)
  refine wpAny_bind (wp_getPy hls.typeIs list_getitem_lookup ?_)
  refine wpAny_bind (wp_subscripted ?_)
  have pl' := partValue_isPart pl
  have pu' := partValue_isPart pu
  rw [e2] at pl'
  rw [e3] at pu'
  refine wpAny_getItem_list_slice hls (Heap.IsSliceOf.new ..) pl' pu' .none (by simp) ?_ (by rw [List.size_toArray, rs.1]; exact hsz)
  have hp : slicePick vs.toArray lo hi none = (Mine.cut vs lo hi).toArray := by rw [slicePick_plain]; simp [Mine.cut]
  rw [hp]
  obtain ⟨n5, r5⟩ := Nx.newList (b := j.b) hR4 (rs.cut lo hi) (Nat.le_trans (cut_length l lo hi) hsz)
  exact wpAny_bind (wpAny_letTemporaryGo (wpAny_pure (h _ _ _ ((((n1.trans n2).trans n3).trans n4).trans n5) r5)))

/-! numbers -/
theorem Op2.add_int {a b : Int} : Op2 c j (binaryOp .Add) (.int a) (.int b) (.int (a + b)) := .mk fun A env s fz v u Q E hA hR r1 r2 h => by
  obtain ⟨_, rfl⟩ := r1.inv; obtain ⟨_, rfl⟩ := r2.inv; exact PyProof.Rows.add_int (h _ _ _ (Nx.toks hR _ (by simp)) (.int _ _))
theorem Op2.iadd_int {a b : Int} : Op2 c j (inplaceOp .Add) (.int a) (.int b) (.int (a + b)) := .mk fun A env s fz v u Q E hA hR r1 r2 h => by
  obtain ⟨_, rfl⟩ := r1.inv; obtain ⟨_, rfl⟩ := r2.inv; exact PyProof.Rows.iadd_int (h _ _ _ (Nx.toks hR _ (by simp)) (.int _ _))
theorem Op2.sub_int {a b : Int} : Op2 c j (binaryOp .Sub) (.int a) (.int b) (.int (a - b)) := .mk fun A env s fz v u Q E hA hR r1 r2 h => by
  obtain ⟨_, rfl⟩ := r1.inv; obtain ⟨_, rfl⟩ := r2.inv; exact PyProof.Rows.sub_int (h _ _ _ (Nx.toks hR _ (by simp)) (.int _ _))
theorem Op2.mod_int {a b : Int} (hb : b ≠ 0) : Op2 c j (binaryOp .Mod) (.int a) (.int b) (.int (a.fmod b)) := .mk fun A env s fz v u Q E hA hR r1 r2 h => by
  obtain ⟨_, rfl⟩ := r1.inv; obtain ⟨_, rfl⟩ := r2.inv; exact PyProof.Rows.mod_int hb (h _ _ _ (Nx.toks hR _ (by simp)) (.int _ _))
theorem Op2.div_int {a b : Int} (hb : b ≠ 0) (hp : Builtin.divisionGoesByPylong a b = false) : Op2 c j (binaryOp .FloorDiv) (.int a) (.int b) (.int (a.fdiv b)) := .mk fun A env s fz v u Q E hA hR r1 r2 h => by
  obtain ⟨_, rfl⟩ := r1.inv; obtain ⟨_, rfl⟩ := r2.inv; exact PyProof.Rows.floordiv_int hb (h _ _ _ (Nx.toks hR _ (by simp)) (.int _ _)) (hp := .inl hp)
theorem Op2.pow_int {a b : Int} (hn : 0 ≤ b) (hn2 : b ≤ 1000000) (ha : a.natAbs < 2 ^ 64) : Op2 c j (binaryOp .Pow) (.int a) (.int b) (.int (a ^ b.toNat)) := .mk fun A env s fz v u Q E hA hR r1 r2 h => by
  obtain ⟨_, rfl⟩ := r1.inv; obtain ⟨_, rfl⟩ := r2.inv; exact PyProof.Rows.pow_int_small hn hn2 ha (h _ _ _ (Nx.toks hR _ (by simp)) (.int _ _))
theorem Op1.neg_int {a : Int} : Op1 c j (unaryOp .USub) (.int a) (.int (-a)) := .mk fun A env s fz v Q E hA hR r1 h => by
  obtain ⟨_, rfl⟩ := r1.inv; exact PyProof.Rows.neg_int (h _ _ _ (Nx.toks hR _ (by simp)) (.int _ _))
theorem Op2.lt_int {a b : Int} : Op2 c j (compareOp .Lt) (.int a) (.int b) (.bool (decide (a < b))) := .mk fun A env s fz v u Q E hA hR r1 r2 h => by
  obtain ⟨_, rfl⟩ := r1.inv; obtain ⟨_, rfl⟩ := r2.inv; exact PyProof.Rows.lt_int (h _ _ _ (Nx.refl hR) (.bool _))
theorem Op2.le_int {a b : Int} : Op2 c j (compareOp .LtE) (.int a) (.int b) (.bool (decide (a ≤ b))) := .mk fun A env s fz v u Q E hA hR r1 r2 h => by
  obtain ⟨_, rfl⟩ := r1.inv; obtain ⟨_, rfl⟩ := r2.inv; exact PyProof.Rows.le_int (h _ _ _ (Nx.refl hR) (.bool _))
theorem Op2.ge_int {a b : Int} : Op2 c j (compareOp .GtE) (.int a) (.int b) (.bool (decide (b ≤ a))) := .mk fun A env s fz v u Q E hA hR r1 r2 h => by
  obtain ⟨_, rfl⟩ := r1.inv; obtain ⟨_, rfl⟩ := r2.inv; exact PyProof.Rows.ge_int (h _ _ _ (Nx.refl hR) (.bool _))
theorem Op2.gt_int {a b : Int} : Op2 c j (compareOp .Gt) (.int a) (.int b) (.bool (decide (b < a))) := .mk fun A env s fz v u Q E hA hR r1 r2 h => by
  obtain ⟨_, rfl⟩ := r1.inv; obtain ⟨_, rfl⟩ := r2.inv; exact PyProof.Rows.gt_int (h _ _ _ (Nx.refl hR) (.bool _))
theorem Op2.eq_int {a b : Int} : Op2 c j (compareOp .Eq) (.int a) (.int b) (.bool (decide (a = b))) := .mk fun A env s fz v u Q E hA hR r1 r2 h => by
  obtain ⟨_, rfl⟩ := r1.inv; obtain ⟨_, rfl⟩ := r2.inv; exact PyProof.Rows.eq_int (by have := h (.bool (decide (a = b))) _ _ (Nx.refl hR) (.bool _); rwa [show (a == b) = decide (a = b) from rfl])
theorem Op2.ne_int {a b : Int} : Op2 c j (compareOp .NotEq) (.int a) (.int b) (.bool (!decide (a = b))) := .mk fun A env s fz v u Q E hA hR r1 r2 h => by
  obtain ⟨_, rfl⟩ := r1.inv; obtain ⟨_, rfl⟩ := r2.inv; exact PyProof.Rows.ne_int (by have := h (.bool (!decide (a = b))) _ _ (Nx.refl hR) (.bool _); rwa [show (a != b) = !decide (a = b) from rfl])

/-! strs -/
theorem str_beq (x y : List Nat) : ((⟨x.toArray⟩ : Str) == ⟨y.toArray⟩) = decide (x = y) := by
  rw [Bool.eq_iff_iff, beq_iff_eq, decide_eq_true_eq]
  simp
theorem Op2.eq_str {a b : List Nat} : Op2 c j (compareOp .Eq) (.str a) (.str b) (.bool (decide (a = b))) := .mk fun A env s fz v u Q E hA hR r1 r2 h => by
  obtain ⟨_, rfl, _⟩ := r1.inv; obtain ⟨_, rfl, _⟩ := r2.inv; exact PyProof.Rows.eq_str (by rw [str_beq]; exact h _ _ _ (Nx.refl hR) (.bool _))
theorem Op2.ne_str {a b : List Nat} : Op2 c j (compareOp .NotEq) (.str a) (.str b) (.bool (!decide (a = b))) := .mk fun A env s fz v u Q E hA hR r1 r2 h => by
  obtain ⟨_, rfl, _⟩ := r1.inv; obtain ⟨_, rfl, _⟩ := r2.inv; exact PyProof.Rows.ne_str (by rw [show ∀ x y : Str, (x != y) = !(x == y) from fun _ _ => rfl, str_beq]; exact h _ _ _ (Nx.refl hR) (.bool _))
theorem str_append (a b : List Nat) : (⟨a.toArray⟩ : Str) ++ ⟨b.toArray⟩ = ⟨(a ++ b).toArray⟩ := by
  show Str.append _ _ = _
  simp [Str.append]
theorem Op2.add_str {a b : List Nat} (hsz : (a ++ b).length ≤ sizeLine) : Op2 c j (binaryOp .Add) (.str a) (.str b) (.str (a ++ b)) := .mk fun A env s fz v u Q E hA hR r1 r2 h => by
  obtain ⟨_, rfl, _⟩ := r1.inv; obtain ⟨_, rfl, _⟩ := r2.inv
  refine wpAny_with_toks (Nat.le_refl s.toks) (PyProof.Rows.add_str (fun t' tk hk => ?_) (by rw [List.length_append] at hsz; simpa [Str.length] using hsz))
  rw [str_append]; exact h _ _ _ (Nx.toks hR _ hk) (.str _ _ hsz)
theorem Op2.iadd_str {a b : List Nat} (hsz : (a ++ b).length ≤ sizeLine) : Op2 c j (inplaceOp .Add) (.str a) (.str b) (.str (a ++ b)) := .mk fun A env s fz v u Q E hA hR r1 r2 h => by
  obtain ⟨_, rfl, _⟩ := r1.inv; obtain ⟨_, rfl, _⟩ := r2.inv
  refine wpAny_with_toks (Nat.le_refl s.toks) (PyProof.Rows.iadd_str (fun t' tk hk => ?_) (by rw [List.length_append] at hsz; simpa [Str.length] using hsz))
  rw [str_append]; exact h _ _ _ (Nx.toks hR _ hk) (.str _ _ hsz)
theorem Op2.in_str {d : Nat} {b : List Nat} : Op2 c j (compareOp .In) (.str [d]) (.str b) (.bool (decide (d ∈ b))) := .mk fun A env s fz v u Q E hA hR r1 r2 h => by
  obtain ⟨_, rfl, _⟩ := r1.inv; obtain ⟨_, rfl, _⟩ := r2.inv
  refine PyProof.Rows.in_str ?_
  have e := StrLaws.found_one ⟨b.toArray⟩ d
  have e2 : decide (d ∈ (⟨b.toArray⟩ : Str).cps.toList) = decide (d ∈ b) := by simp
  rw [e2] at e
  rw [show (⟨[d].toArray⟩ : Str) = ⟨#[d]⟩ from rfl, e]
  exact h _ _ _ (Nx.refl hR) (.bool _)
theorem Op2.notin_str {d : Nat} {b : List Nat} : Op2 c j (compareOp .NotIn) (.str [d]) (.str b) (.bool (!decide (d ∈ b))) := .mk fun A env s fz v u Q E hA hR r1 r2 h => by
  obtain ⟨_, rfl, _⟩ := r1.inv; obtain ⟨_, rfl, _⟩ := r2.inv
  refine PyProof.Rows.notIn_str ?_
  have e := StrLaws.found_one ⟨b.toArray⟩ d
  have e2 : decide (d ∈ (⟨b.toArray⟩ : Str).cps.toList) = decide (d ∈ b) := by simp
  rw [e2] at e
  rw [show (⟨[d].toArray⟩ : Str) = ⟨#[d]⟩ from rfl, e]
  exact h _ _ _ (Nx.refl hR) (.bool _)
/-! bools -/
theorem OpT.bool {x : Bool} : OpT c j truthy (.bool x) x := .mk fun A env s fz v Q E hA hR r h => by
  obtain rfl : v = _ := r.inv; exact wpAny_truthy_bool (h _ _ (Nx.refl hR))
/-! lists -/
theorem Op2.add_list {a b : V} {l l' : List V} (ha : asL j.mu a = some l) (hb : asL j.mu b = some l') (hsz : (l ++ l').length ≤ sizeLine) : Op2 c j (binaryOp .Add) a b (.lst (l ++ l')) := .mk fun A env s fz v u Q E hA hR r1 r2 h => by
  obtain ⟨a1, vs, rfl, h1, rs1, _⟩ := asL_spec hR r1 ha
  obtain ⟨a2, ws, rfl, h2, rs2, _⟩ := asL_spec hR r2 hb
  obtain ⟨⟨cls, dd, data, sl⟩, ho, hc, n, hd⟩ := id h1
  obtain ⟨⟨cls2, dd2, data2, sl2⟩, ho2, hc2, n2, hd2⟩ := id h2
  simp only at hc hd hc2 hd2
  subst hc hd hc2 hd2
  have hlen : vs.toArray.size + ws.toArray.size ≤ sizeLine := by
    rw [List.length_append] at hsz
    simp [rs1.1, rs2.1]; exact hsz
  refine concat_meets ⟨_, ho, rfl⟩ ⟨_, ho2, rfl⟩ noFill_list_add seq_list_add PySem.F.slot_list_add PySem.F.entry_list_add (PySem.F.args_list_add_2 _ _) (list_addW a1 a2 vs.toArray ws.toArray n n2 dd dd2 sl sl2 hlen) ⟨ho, ho2, ?_⟩
  obtain ⟨n5, r5⟩ := Nx.newList (b := j.b) hR (rs1.append rs2) hsz
  have e : vs.toArray ++ ws.toArray = (vs ++ ws).toArray := by simp
  rw [e]
  exact h _ _ _ n5 r5
end Mine

end
section
open PySem PySem.Calls PySem.W PyProof.Rows
set_option Elab.async false
set_option autoImplicit false
set_option linter.unusedVariables false
set_option maxRecDepth 100000
namespace Mine
variable {c : C} {j : J}

/-! flat data -/
noncomputable def flat : V → Bool
  | .non => true
  | .bool _ => true
  | .int _ => true
  | .str _ => true
  | _ => false
noncomputable def dat : V → PyData
  | .bool b => .bool b
  | .int i => .int i
  | .str l => .str ⟨l.toArray⟩
  | _ => .none
theorem R.carried {fz : FM} {ix : IX} {v : Value} {x : V} (r : R fz ix v x) (h : flat x = true) : Carried v (dat x) := by
  cases r <;> first | exact .none | exact .bool _ | exact .int _ _ | exact .str _ _ | cases h
theorem Rs.carried {fz : FM} {ix : IX} : ∀ {l : List V} {vs : List Value}, Rs fz ix vs l → l.all flat = true → CarriedAll vs (l.map dat)
  | [], vs, rs, _ => by rw [rs.nil_inv]; exact .nil
  | x :: l, vs, rs, h => by
    obtain ⟨v, vs', rfl, r, rs'⟩ := rs.cons_inv
    simp only [List.all_cons, Bool.and_eq_true] at h
    exact .cons (r.carried h.1) (rs'.carried h.2)
/-- the ints of a list -/
noncomputable def intsOf : List V → Option (List Int)
  | [] => some []
  | .int i :: l => (intsOf l).map (i :: ·)
  | _ => none
noncomputable def strsOf : List V → Option (List (List Nat))
  | [] => some []
  | .str x :: l => (strsOf l).map (x :: ·)
  | _ => none
theorem intsOf_spec : ∀ {l : List V} {ns : List Int}, intsOf l = some ns → l = ns.map .int
  | [], ns, h => by cases h; rfl
  | x :: l, ns, h => by
    cases x <;> simp only [intsOf, Option.map_eq_some_iff] at h <;> try (cases h)
    rename_i i ms h
    rw [intsOf_spec h.1, ← h.2]; rfl
theorem strsOf_spec : ∀ {l : List V} {ns : List (List Nat)}, strsOf l = some ns → l = ns.map .str
  | [], ns, h => by cases h; rfl
  | x :: l, ns, h => by
    cases x <;> simp only [strsOf, Option.map_eq_some_iff] at h <;> try (cases h)
    rename_i i ms h
    rw [strsOf_spec h.1, ← h.2]; rfl
theorem intsOf_map (ns : List Int) : intsOf (ns.map .int) = some ns := by
  induction ns with
  | nil => rfl
  | cons n r ih => simp [intsOf, ih]
theorem strsOf_map (ns : List (List Nat)) : strsOf (ns.map .str) = some ns := by
  induction ns with
  | nil => rfl
  | cons n r ih => simp [strsOf, ih]
theorem Rs.ints {fz : FM} {ix : IX} : ∀ {ns : List Int} {vs : List Value}, Rs fz ix vs (ns.map .int) → IntsAre vs ns
  | [], vs, rs => by rw [rs.nil_inv]; exact .nil
  | n :: ns, vs, rs => by
    obtain ⟨v, vs', rfl, r, rs'⟩ := rs.cons_inv
    cases r; exact .cons _ _ rs'.ints
noncomputable def mkStr' (l : List Nat) : Str := ⟨l.toArray⟩
theorem mkStr'_inj {a b : List Nat} : mkStr' a = mkStr' b ↔ a = b := by unfold mkStr'; simp
theorem Rs.strs {fz : FM} {ix : IX} : ∀ {ns : List (List Nat)} {vs : List Value}, Rs fz ix vs (ns.map .str) → CarriedAll vs ((ns.map mkStr').map PyData.str)
  | [], vs, rs => by rw [rs.nil_inv]; exact .nil
  | n :: ns, vs, rs => by
    obtain ⟨v, vs', rfl, r, rs'⟩ := rs.cons_inv
    cases r; exact .cons (.str _ _) rs'.strs

theorem Rs.strAt {fz : FM} {ix : IX} {ns : List (List Nat)} {vs : List Value} (h : Rs fz ix vs (ns.map .str)) (k : Nat) (h1 : k < vs.toArray.size) : ∃ x tk, ns[k]? = some x ∧ vs.toArray[k] = .str (mkStr' x) tk := by
  have hk : k < ns.length := by have := h.1; simp at h1 this; omega
  obtain ⟨v, e, r⟩ := h.get (i := k) (x := .str ns[k]) (by simp [hk])
  cases r
  rename_i tk _
  refine ⟨ns[k], tk, by simp [hk], ?_⟩
  have : vs.toArray[k]? = some (.str (mkStr' ns[k]) tk) := by simpa [mkStr'] using e
  rw [Array.getElem?_eq_getElem h1] at this
  exact Option.some.inj this
theorem strs_eqAt {fz : FM} {ix : IX} {ns ms : List (List Nat)} {vs ws : List Value} (h : Rs fz ix vs (ns.map .str)) (h' : Rs fz ix ws (ms.map .str)) (A : Around) (s : Shared) (k : Nat) (h1 : k < vs.toArray.size) (h2 : k < ws.toArray.size) :
    SeqAt.EqAt A s vs.toArray[k] ws.toArray[k] (decide (ns[k]? = ms[k]?)) := by
  obtain ⟨x, t, e1, e2⟩ := h.strAt k h1
  obtain ⟨y, u, e3, e4⟩ := h'.strAt k h2
  rw [e2, e4, e1, e3]
  have := SeqAt.EqAt.str_str (A := A) (s := s) (mkStr' x) t (mkStr' y) u
  have e : (mkStr' x == mkStr' y) = decide (some x = some y) := by
    rw [Bool.eq_iff_iff, beq_iff_eq, decide_eq_true_eq, mkStr'_inj, Option.some.injEq]
  rwa [e] at this
theorem all_at {ns ms : List (List Nat)} (h : ns.length = ms.length) : ((List.range ns.length).all fun k => decide (ns[k]? = ms[k]?)) = decide (ns = ms) := by
  rw [Bool.eq_iff_iff, decide_eq_true_eq, List.all_eq_true]
  constructor
  · intro hh
    apply List.ext_getElem?
    intro k
    by_cases hk : k < ns.length
    · simpa using hh k (by simpa using hk)
    · rw [List.getElem?_eq_none (by omega), List.getElem?_eq_none (by omega)]
  · rintro rfl k _; simp
theorem Room.units {n : Nat} {A : Around} (h : Room n A) : A.units + 64 < cLine := by have := h.2.2; omega

theorem Op2.eq_ints {a b : V} {l l' : List V} {ns ms : List Int} (ha : asL j.mu a = some l) (hb : asL j.mu b = some l') (e1 : intsOf l = some ns) (e2 : intsOf l' = some ms) : Op2 c j (compareOp .Eq) a b (.bool (decide (ns = ms))) := .mk fun A env s fz v u Q E hA hR r1 r2 h => by
  obtain ⟨a1, vs, rfl, h1, rs1, _⟩ := asL_spec hR r1 ha
  obtain ⟨a2, ws, rfl, h2, rs2, _⟩ := asL_spec hR r2 hb
  rw [intsOf_spec e1] at rs1
  rw [intsOf_spec e2] at rs2
  exact ke_eq_ints h1 h2 rs1.ints rs2.ints hA.units (h _ _ _ (Nx.refl hR) (.bool _))
theorem Op2.ne_strs {a b : V} {l l' : List V} {ns ms : List (List Nat)} (ha : asL j.mu a = some l) (hb : asL j.mu b = some l') (e1 : strsOf l = some ns) (e2 : strsOf l' = some ms) : Op2 c j (compareOp .NotEq) a b (.bool (!decide (ns = ms))) := .mk fun A env s fz v u Q E hA hR r1 r2 h => by
  obtain ⟨a1, vs, rfl, h1, rs1, _⟩ := asL_spec hR r1 ha
  obtain ⟨a2, ws, rfl, h2, rs2, _⟩ := asL_spec hR r2 hb
  rw [strsOf_spec e1] at rs1
  rw [strsOf_spec e2] at rs2
  have l1 : vs.toArray.size = ns.length := by have := rs1.1; simpa using this
  have l2 : ws.toArray.size = ms.length := by have := rs2.1; simpa using this
  by_cases hl : ns.length = ms.length
  · refine SeqAt.RcNeAt.lists h1 h2 (by rw [l1, l2, hl]) (by have := hA.units; omega) (strs_eqAt rs1 rs2 _ _) c.prog c.w E Q ?_
    rw [l1, all_at hl]; exact h _ _ _ (Nx.refl hR) (.bool _)
  · refine SeqAt.RcNeAt.lists_lengths h1 h2 (by rw [l1, l2]; simpa using hl) (by have := hA.units; omega) c.prog c.w E Q ?_
    have : decide (ns = ms) = false := decide_eq_false fun q => hl (by rw [q])
    rw [this] at h; exact h _ _ _ (Nx.refl hR) (.bool _)

/-- in a tuple of strs -/
theorem any_hitsStr' {x : List Nat} : ∀ {ns : List (List Nat)} {vs : List Value}, CarriedAll vs ((ns.map mkStr').map PyData.str) → vs.any (valHitsStr (mkStr' x)) = decide (x ∈ ns)
  | [], _, .nil => rfl
  | n :: r, v :: vs, .cons hv hr => by
    cases hv
    simp only [List.any_cons]
    rw [any_hitsStr' hr]
    have : valHitsStr (mkStr' x) (.str (mkStr' n) ‹Tok›) = decide (x = n) := by
      show (mkStr' n == mkStr' x) = decide (x = n)
      rw [Bool.eq_iff_iff, beq_iff_eq, decide_eq_true_eq, mkStr'_inj]; exact eq_comm
    rw [this]
    by_cases h : x = n <;> simp [h]
theorem Op2.in_tup {x : List Nat} {l : List V} {ns : List (List Nat)} (e : strsOf l = some ns) : Op2 c j (compareOp .In) (.str x) (.tup l) (.bool (decide (x ∈ ns))) := .mk fun A env s fz v u Q E hA hR r1 r2 h => by
  obtain ⟨a2, ws, rfl, h2, rs2⟩ := tup_spec hR r2
  rw [strsOf_spec e] at rs2
  obtain ⟨_, rfl, _⟩ := r1.inv
  have hc := rs2.strs
  refine SeqAt.in_tupleAt (valHitsStr (mkStr' x)) h2 (fun y hy => ?_) ?_
  · obtain ⟨d, cd⟩ := hc.memC y (by simpa using hy); exact cd.eqAtStr (mkStr' x) _
  · have := any_hitsStr' (x := x) hc
    rw [show (List.toArray ws).any (valHitsStr (mkStr' x)) = ws.any (valHitsStr (mkStr' x)) by simp, this]
    exact h _ _ _ (Nx.refl hR) (.bool _)

/-! identity -/
noncomputable def isNon : V → Option Bool
  | .non => some true
  | .ty _ => none
  | .con _ => some false
  | _ => some false
/-- an own thing and another value -/
noncomputable def isMl (i : Nat) : V → Option Bool
  | .ml k => if i = k then some true else none
  | .str _ => some false
  | _ => none
theorem isSame_self (ad : Addr) : isSame (.ref ad) (.ref ad) = pure true := by
  unfold isSame
  dsimp only
  rw [if_pos (beq_self_eq_true ad)]
theorem ml_same {fz : FM} {ix : IX} {v u : Value} {a : V} {i : Nat} {x : Bool} (r1 : R fz ix v a) (r2 : R fz ix u (.ml i)) (e : isMl i a = some x) : isSame v u = pure x := by
  cases r2
  rename_i ad hi
  cases r1 <;> simp only [isMl] at e <;> try (cases e; done)
  · cases e; rfl
  · split at e
    · rename_i k ad' hi' hk
      subst hk; cases e
      rw [hi] at hi'; cases hi'
      exact isSame_self ad
    · cases e
theorem Op2.is_ml {a : V} {i : Nat} {x : Bool} (e : isMl i a = some x) : Op2 c j (compareOp .Is) a (.ml i) (.bool x) := .mk fun A env s fz v u Q E hA hR r1 r2 h => by
  show wpAny _ _ (do return Value.bool (← isSame v u)) _ _ _
  refine wpAny_bind ?_
  rw [ml_same r1 r2 e]
  exact wpAny_pure (wpAny_pure (h _ _ _ (Nx.refl hR) (.bool _)))
theorem Op2.isnot_ml {a : V} {i : Nat} {x : Bool} (e : isMl i a = some x) : Op2 c j (compareOp .IsNot) a (.ml i) (.bool (!x)) := .mk fun A env s fz v u Q E hA hR r1 r2 h => by
  show wpAny _ _ (do return Value.bool (!(← isSame v u))) _ _ _
  refine wpAny_bind ?_
  rw [ml_same r1 r2 e]
  exact wpAny_pure (wpAny_pure (h _ _ _ (Nx.refl hR) (.bool _)))
end Mine

end
section
open PySem PySem.Calls PySem.W PyProof.Rows
set_option Elab.async false
set_option autoImplicit false
set_option linter.unusedVariables false
set_option maxRecDepth 100000
namespace Mine
variable {c : C} {j : J}

/-! truth -/
theorem OpT.str {l : List Nat} : OpT c j truthy (.str l) (decide (l ≠ [])) := .mk fun A env s fz v Q E hA hR r h => by
  obtain ⟨t, rfl, hl⟩ := r.inv
  have hsl := sizeLine_eq
  refine P.truthy_str (by show ¬ ((l.toArray.size : Nat) : Int) ≥ 2 ^ 63; rw [List.size_toArray]; omega) ?_
  have : (((⟨l.toArray⟩ : Str).length : Int) != 0) = decide (l ≠ []) := by
    show ((l.toArray.size : Int) != 0) = _
    rw [List.size_toArray]
    cases l <;> simp
    omega
  rw [this]
  exact h _ _ (Nx.toks hR _ (by show s.toks ≤ s.toks + 1 + 1; omega))
theorem OpT.list {a : V} {l : List V} (hl : asL j.mu a = some l) : OpT c j truthy a (decide (l ≠ [])) := .mk fun A env s fz v Q E hA hR r h => by
  obtain ⟨ad, vs, rfl, hls, rs, hsz⟩ := asL_spec hR r hl
  have hsl := sizeLine_eq
  refine wpAny_truthy_list hls (by rw [List.size_toArray, rs.1]; omega) ?_
  have : (!(List.toArray vs).isEmpty) = decide (l ≠ []) := by
    have := rs.1
    cases vs <;> cases l <;> simp at this ⊢
  rw [this]
  exact h _ _ (Nx.toks hR _ (by show s.toks ≤ s.toks + 1 + 1; omega))

/-! products -/
noncomputable def rep {α : Type} (n : Int) (l : List α) : List α := (List.replicate n.toNat l).flatten
theorem rep_length {α : Type} (n : Int) (l : List α) : (rep n l).length = n.toNat * l.length := by
  unfold rep; simp
theorem foldl_app {α : Type} (x : Array α) : ∀ (k : Nat) (acc : Array α), (List.replicate k x).foldl (fun a b => a ++ b) acc = acc ++ ((List.replicate k x.toList).flatten).toArray
  | 0, acc => by simp
  | k + 1, acc => by
    rw [List.replicate_succ, List.foldl_cons, foldl_app x k, List.replicate_succ, List.flatten_cons]
    apply Array.ext'
    simp
theorem Op2.mul_str {l : List Nat} {n : Int} (h0 : -(2 ^ 62 : Int) ≤ n) (hsz : n.toNat * l.length ≤ sizeLine) (hn : n < 2 ^ 62) : Op2 c j (binaryOp .Mult) (.str l) (.int n) (.str (rep n l)) := .mk fun A env s fz v u Q E hA hR r1 r2 h => by
  obtain ⟨t, rfl, hl⟩ := r1.inv; obtain ⟨tk, rfl⟩ := r2.inv
  have hsl := sizeLine_eq
  have hlen : Str.length ⟨l.toArray⟩ = l.length := List.size_toArray ..
  refine P.mul_str ?_ ?_ ?_ ?_
  · have h1 : ¬ n < -(2 ^ 63 : Int) := by omega
    have h2 : ¬ n ≥ (2 ^ 63 : Int) := by omega
    rw [decide_eq_false h1, decide_eq_false h2]; rfl
  · intro h1 _
    rw [hlen]
    have hp : n * (l.length : Int) ≤ (sizeLine : Int) := by
      have e : n = (n.toNat : Int) := by omega
      rw [e]; exact_mod_cast hsz
    have : (l.length : Int) ≤ (2 ^ 63 - 1) / n := by
      rw [Int.le_ediv_iff_mul_le (by omega)]
      rw [Int.mul_comm]; omega
    omega
  · intro h1 _
    rw [hlen, Nat.mul_comm]
    exact decide_eq_false (by omega)
  · split
    · rename_i h1
      have : rep n l = [] := by unfold rep; rw [show n.toNat = 0 by omega]; rfl
      rw [this] at h
      exact ⟨by decide, h _ _ _ (Nx.toks hR _ (by simp)) (.str [] _ (by simp))⟩
    · rename_i h1
      split
      · rename_i h2
        have : rep n l = l := by
          simp only [Bool.or_eq_true, beq_iff_eq] at h2
          rcases h2 with rfl | h2
          · unfold rep; simp
          · rw [hlen] at h2
            have : l = [] := by simpa using h2
            subst this; unfold rep; simp
        rw [this] at h
        exact h _ _ _ (Nx.refl hR) (.str _ _ hl)
      · have e : (⟨(List.replicate n.toNat (⟨l.toArray⟩ : Str).cps).foldl (· ++ ·) #[]⟩ : Str) = ⟨(rep n l).toArray⟩ := by
          rw [foldl_app]; simp [rep]
        rw [e]
        have hl2 : (rep n l).length ≤ sizeLine := by rw [rep_length]; exact hsz
        exact ⟨by show (rep n l).toArray.size ≤ sizeLine; rw [List.size_toArray]; exact hl2, h _ _ _ (Nx.toks hR _ (by simp)) (.str _ _ hl2)⟩
theorem Rs.rep {fz : FM} {ix : IX} {vs : List Value} {l : List V} (h : Rs fz ix vs l) (n : Nat) : Rs fz ix (List.replicate n vs).flatten (List.replicate n l).flatten := by
  induction n with
  | zero => exact Rs.nil
  | succ n ih => rw [List.replicate_succ, List.replicate_succ, List.flatten_cons, List.flatten_cons]; exact h.append ih
theorem Op2.mul_list {a : V} {l : List V} {n : Int} (ha : asL j.mu a = some l) (h0 : -(2 ^ 62 : Int) ≤ n) (hsz : n.toNat * l.length ≤ sizeLine) (hn : n < 2 ^ 62) : Op2 c j (binaryOp .Mult) a (.int n) (.lst (Mine.rep n l)) := .mk fun A env s fz v u Q E hA hR r1 r2 h => by
  obtain ⟨ad, vs, rfl, hls, rs, _⟩ := asL_spec hR r1 ha
  cases r2
  have hsl := sizeLine_eq
  obtain ⟨⟨cls, d, data, sl⟩, ho, hcl, k, hd⟩ := id hls
  simp only at hcl hd
  subst hcl hd
  have hsz' : vs.toArray.size * n.toNat ≤ 2 ^ 24 := by rw [List.size_toArray, rs.1, Nat.mul_comm]; omega
  have hl2 : (Mine.rep n l).length ≤ sizeLine := by rw [rep_length]; exact hsz
  refine wpAny_binaryOp_repeat_ref (T := "list") (U := "int") (by decide) ⟨_, ho, rfl⟩ (fun s' => typeIs_int s' n _) noFill_list_mul PySem.F.fills_int_mul PySem.F.slot_int_rmul repeat_list PySem.F.slot_int_index.lookup
    (call_meets PySem.F.slot_int_rmul (typeIs_int s n _) PySem.F.entry_int_rmul (PySem.F.args_int_rmul_2 _ _) (lm_int_rmul_list_any n _ ad vs.toArray k d sl) ⟨ho, rfl, ⟨_, ho, rfl⟩, ?_⟩)
  refine call_meets PySem.F.slot_list_mul ⟨_, ho, rfl⟩ PySem.F.entry_list_mul (PySem.F.args_list_mul_2 _ _)
    (lm_list_mul_any ad vs.toArray k d sl n _ (by simp [Builtin.List.listFitsIndex]; omega) (by omega) (by unfold Builtin.List.listTooLong; exact decide_eq_false_iff_not.mp (decide_eq_false (by simp; rw [List.size_toArray] at hsz'; omega)))) ⟨ho, ?_⟩
  rw [listMul_foldl_if]
  obtain ⟨n5, r5⟩ := Nx.newList (b := j.b) hR (rs.rep n.toNat) hl2
  exact h _ _ _ n5 r5

/-! calls of what is no def -/
theorem wp_evalArgs {M : Model} {A : Around} {E : Value → Shared → Prop} {s : Shared} {f : Value} {es : List PySem.Expr} {pos : Pos} {env : Env} {Q : Args → Shared → Prop} (hs : es.all noStar = true)
    (h : wpAny M A (spliced (backTo pos (starEach es env))) (fun vs s' => Q ⟨vs, []⟩ s') E s) : wpAny M A (evalArgs f true (backTo pos (starEach es env)) []) Q E s := by
  cases es with
  | nil =>
    have e : backTo pos (starEach [] env) = [] := rfl
    rw [e] at h ⊢
    unfold evalArgs
    show wpAny M A (spliced [] >>= _) Q E s
    refine wpAny_bind (wpAny_mono h (fun vs s' h' => ?_) fun _ _ x => x)
    refine wpAny_bind (wpAny_pure ?_)
    refine wpAny_holding ?_
    exact wpAny_bind (wpAny_pure (wpAny_bind (wpAny_pure (wpAny_pure h'))))
  | cons e r =>
    simp only [List.all_cons, Bool.and_eq_true] at hs
    rw [starEach_cons hs.1] at h ⊢
    exact evalArgs_plain h

theorem any_noStar {pos : Pos} {env : Env} : ∀ {es : List PySem.Expr}, es.all noStar = true → (backTo pos (starEach es env)).any (·.1) = false
  | [], _ => rfl
  | e :: r, h => by
    simp only [List.all_cons, Bool.and_eq_true] at h
    rw [starEach_cons h.1]
    show (false || (backTo pos (starEach r env)).any (·.1)) = false
    rw [any_noStar h.2]; rfl
theorem all_noStar {pos : Pos} {env : Env} : ∀ {es : List PySem.Expr}, es.all noStar = true → (backTo pos (starEach es env)).all (!·.1) = true
  | [], _ => rfl
  | e :: r, h => by
    simp only [List.all_cons, Bool.and_eq_true] at h
    rw [starEach_cons h.1]
    show (!false && (backTo pos (starEach r env)).all (!·.1)) = true
    rw [all_noStar h.2]; rfl
/-- a function or a type of the builtins -/
theorem EvS.callf {f : Str} {fp pos : Pos} {fv : Value} {es : List PySem.Expr} {l : List V} {x : V} (hg : Glob c.K f fv) (hk : j.sc.names.lookup f = some .globalImplicit) (hd : (f == ("__debug__" : Str)) = false) (hfv : ∀ a, fv ≠ .ref a)
    (hs : es.all noStar = true) (ha : EvL c j (fun env => spliced (backTo pos (starEach es env))) l) (ho : OpN c j (fun vs => call fv vs) l x) : EvS c j (eval (.Call (.Name f fp) es [] pos)) x := .mk fun A env s fz Q E hA he hR h => by
  show wpAny c.M A (do callWith pos (← eval (.Name f fp) env) [] (backTo pos (starEach es env)) []) Q E s
  refine wpAny_bind (wp_glob (j := j) hg hk hd he hR ?_)
  have hplain : ((backTo pos (starEach es env)).any (·.1) || ([] : List (Option Str × Sem Value)).any (·.1.isNone)) = false := by
    rw [List.any_nil, Bool.or_false]; exact any_noStar hs
  refine callWith_of (P := fun _ => True) (first := []) hplain (fun hh _ => ⟨.machine, .inr (.inl rfl), ?_⟩) ?_
  · cases fv <;> first | exact Looks.of_pure rfl | exact absurd rfl (hfv _)
  · refine wp_evalArgs hs ?_
    refine ha A env s fz _ _ hA he hR fun vs s1 fz1 n1 rs => ⟨trivial, ?_⟩
    exact ho A env s1 fz1 vs _ _ hA (hR.next n1) rs fun v s2 fz2 n2 r2 => h _ _ _ (n1.trans n2) r2

/-- a method that is a builtin -/
theorem EvS.meth {o : PySem.Expr} {name : Str} {apos pos : Pos} {T id : String} {es : List PySem.Expr} {a : V} {l : List V} {x : V} (hbase : ∀ env, attributeBase o name env (eval o env) = eval o env) (hfew : es.length < 30) (hline : (apos.endLine == pos.line) = true)
    (pa : PlainAttrs T) (slot : Slot T name id) (hty : typeOf (.builtin id) = pure (.type "method_descriptor"))
    (hT : ∀ env s fz v, Rd c.h₀ fz j.ix env s j.m j.mu → R fz j.ix v a → s.TypeIs v T ∧ (∀ ad, v = .ref ad → ∃ ob, s.heap.get? ad = some ob ∧ ob.dict = none))
    (ho : EvS c j (eval o) a) (hs : es.all noStar = true) (ha : EvL c j (fun env => spliced (backTo pos (starEach es env))) l) (hop : OpN c j (fun vs => call (.builtin id) vs) (a :: l) x) :
    EvS c j (eval (.Call (.Attribute o name apos) es [] pos)) x := .mk fun A env s fz Q E hA he hR h => by
  refine wpAny_Call_method (hbase env) ?_ hline pa slot hty ?_
  · rw [all_noStar hs]
    simp [show ∀ p env, backToKw p (keywordEach [] env) = [] from fun _ _ => rfl]; exact hfew
  · refine ho A env s fz _ _ hA he hR fun v s1 fz1 n1 r1 => ?_
    obtain ⟨h1, h2⟩ := hT env s1 fz1 v (hR.next n1) r1
    refine ⟨h1, h2, ?_⟩
    refine callWith_builtin (first := [v]) (any_noStar hs) (wp_evalArgs hs ?_)
    refine ha A env s1 fz1 _ _ hA he (hR.next n1) fun vs s2 fz2 n2 rs => ?_
    exact hop A env s2 fz2 (v :: vs) _ _ hA ((hR.next n1).next n2) (Rs.cons (r1.up n2.le) rs) fun u s3 fz3 n3 r3 => h _ _ _ ((n1.trans n2).trans n3) r3
theorem str_TypeIs {l : List Nat} : ∀ env s fz v, Rd c.h₀ fz j.ix env s j.m j.mu → R fz j.ix v (.str l) → s.TypeIs v "str" ∧ (∀ ad, v = .ref ad → ∃ ob, s.heap.get? ad = some ob ∧ ob.dict = none) := fun env s fz v hR r => by
  cases r; exact ⟨typeIs_str _ _ _, fun ad e => nomatch e⟩
end Mine

end
section
open PySem PySem.Calls PySem.W PyProof.Rows
set_option Elab.async false
set_option autoImplicit false
set_option linter.unusedVariables false
set_option maxRecDepth 100000
namespace Mine
variable {c : C} {j : J}

theorem Rs.one {fz : FM} {ix : IX} {vs : List Value} {a : V} (h : Rs fz ix vs [a]) : ∃ v, vs = [v] ∧ R fz ix v a := by
  obtain ⟨v, vs', rfl, r, rs⟩ := h.cons_inv; rw [rs.nil_inv]; exact ⟨v, rfl, r⟩
theorem Rs.two {fz : FM} {ix : IX} {vs : List Value} {a b : V} (h : Rs fz ix vs [a, b]) : ∃ v u, vs = [v, u] ∧ R fz ix v a ∧ R fz ix u b := by
  obtain ⟨v, vs', rfl, r, rs⟩ := h.cons_inv; obtain ⟨u, rfl, r'⟩ := rs.one; exact ⟨v, u, rfl, r, r'⟩
theorem Rs.three {fz : FM} {ix : IX} {vs : List Value} {a b d : V} (h : Rs fz ix vs [a, b, d]) : ∃ v u w, vs = [v, u, w] ∧ R fz ix v a ∧ R fz ix u b ∧ R fz ix w d := by
  obtain ⟨v, vs', rfl, r, rs⟩ := h.cons_inv; obtain ⟨u, w, rfl, r', r''⟩ := rs.two; exact ⟨v, u, w, rfl, r, r', r''⟩

/-! functions of the builtins -/
theorem OpN.len_str {l : List Nat} : OpN c j (fun vs => call (.builtin "len") vs) [.str l] (.int l.length) := .mk fun A env s fz vs Q E hA hR rs h => by
  obtain ⟨v, rfl, r⟩ := rs.one
  obtain ⟨t, rfl, hl⟩ := r.inv
  have hsl := sizeLine_eq
  refine PyProof.Rows.len_str (by show ¬ ((l.toArray.size : Nat) : Int) ≥ 2 ^ 63; rw [List.size_toArray]; omega) ?_
  have : ((⟨l.toArray⟩ : Str).length : Int) = l.length := by show ((l.toArray.size : Nat) : Int) = _; rw [List.size_toArray]
  rw [this]
  exact h _ _ _ (Nx.toks hR _ (by show s.toks ≤ s.toks + 1 + 1; omega)) (.int _ _)
theorem OpN.len_list {a : V} {l : List V} (ha : asL j.mu a = some l) : OpN c j (fun vs => call (.builtin "len") vs) [a] (.int l.length) := .mk fun A env s fz vs Q E hA hR rs h => by
  obtain ⟨v, rfl, r⟩ := rs.one
  obtain ⟨ad, us, rfl, hls, rs', hsz⟩ := asL_spec hR r ha
  have hsl := sizeLine_eq
  refine PyProof.Rows.len_list hls (by rw [List.size_toArray, rs'.1]; omega) ?_
  rw [List.size_toArray, rs'.1]
  exact h _ _ _ (Nx.toks hR _ (by show s.toks ≤ s.toks + 1 + 1; omega)) (.int _ _)
theorem OpN.chr {i : Int} (h0 : 0 ≤ i) (h1 : i ≤ 1114111) : OpN c j (fun vs => call (.builtin "chr") vs) [.int i] (.str [i.toNat]) := .mk fun A env s fz vs Q E hA hR rs h => by
  obtain ⟨v, rfl, r⟩ := rs.one
  obtain ⟨_, rfl⟩ := r.inv
  exact chr_of_range h0 h1 (h _ _ _ (Nx.toks hR _ (by simp)) (.str [i.toNat] _ (by rw [sizeLine_eq]; simp)))
theorem OpN.range1 {n : Int} : OpN c j (fun vs => call (.type "range") vs) [.int n] (.rng 0 n 1) := .mk fun A env s fz vs Q E hA hR rs h => by
  obtain ⟨v, rfl, r⟩ := rs.one
  obtain ⟨_, rfl⟩ := r.inv
  exact call_range_1 (h _ _ _ (Nx.push hR _ (by show s.toks ≤ s.toks + 1 + 1; omega) _) (.rng (FM.put_self _ _ _)))
theorem OpN.range2 {a n : Int} : OpN c j (fun vs => call (.type "range") vs) [.int a, .int n] (.rng a n 1) := .mk fun A env s fz vs Q E hA hR rs h => by
  obtain ⟨v, u, rfl, r, r'⟩ := rs.two
  obtain ⟨_, rfl⟩ := r.inv; obtain ⟨_, rfl⟩ := r'.inv
  exact call_range_2 (h _ _ _ (Nx.push hR _ (by show s.toks ≤ s.toks + 1; omega) _) (.rng (FM.put_self _ _ _)))
theorem OpN.range3 {a n k : Int} (hk : k ≠ 0) (hp : Builtin.divisionGoesByPylong (n - a) k = false) : OpN c j (fun vs => call (.type "range") vs) [.int a, .int n, .int k] (.rng a n k) := .mk fun A env s fz vs Q E hA hR rs h => by
  obtain ⟨v, u, w, rfl, r, r', r''⟩ := rs.three
  obtain ⟨_, rfl⟩ := r.inv; obtain ⟨_, rfl⟩ := r'.inv; obtain ⟨_, rfl⟩ := r''.inv
  exact call_range_3 hk (h _ _ _ (Nx.push hR _ (Nat.le_refl _) _) (.rng (FM.put_self _ _ _))) (.inl hp)
/-- the ints of a range -/
noncomputable def rngInts (a n k : Int) : List Int := (List.range (Builtin.Range.rangeSize a n k).toNat).map fun (i : Nat) => a + i * k
theorem rangeSize_nonneg (a b : Int) : 0 ≤ Builtin.Range.rangeSize a b 1 := by rw [rangeSize_one]; split <;> omega
/-- the least -/
noncomputable def minL : List Int → Option Int
  | [] => none
  | n :: r => match minL r with
    | some k => some (if n ≤ k then n else k)
    | none => some n
theorem minL_spec : ∀ {ns : List Int} {k : Int}, minL ns = some k → k ∈ ns ∧ ∀ a ∈ ns, k ≤ a
  | n :: r, k, h => by
    unfold minL at h
    split at h
    · rename_i k' hk'
      obtain ⟨h1, h2⟩ := minL_spec hk'
      cases h
      refine ⟨by split <;> simp [h1], fun a ha => ?_⟩
      rcases List.mem_cons.mp ha with rfl | ha
      · split <;> omega
      · have := h2 a ha; split <;> omega
    · rename_i hk'
      cases h
      refine ⟨by simp, fun a ha => ?_⟩
      cases r with
      | nil => simp at ha; omega
      | cons y t => unfold minL at hk'; split at hk' <;> cases hk'
theorem OpN.min {a : V} {l : List V} {ns : List Int} {k : Int} (ha : asL j.mu a = some l) (hi : intsOf l = some ns) (hk : minL ns = some k) : OpN c j (fun vs => call (.builtin "min") vs) [a] (.int k) := .mk fun A env s fz vs Q E hA hR rs h => by
  obtain ⟨v, rfl, r⟩ := rs.one
  obtain ⟨ad, us, rfl, hls, rs', hsz⟩ := asL_spec hR r ha
  rw [intsOf_spec hi] at rs'
  have hi' := rs'.ints
  obtain ⟨h1, h2⟩ := minL_spec hk
  obtain ⟨xs, e⟩ := hi'.allInts.items
  have hns : ns = xs.toList.map (·.1) := by
    rw [← hi'.numsOf, ← nums_intItems, ← e]
  have hne : 0 < xs.size := by
    have h3 : 0 < ns.length := List.length_pos_of_mem h1
    rw [hns, List.length_map, Array.length_toList] at h3; exact h3
  rw [e] at hls
  refine wpAny_with_toks (Nat.le_refl s.toks) (min_intList hA.1 hls hne fun v h' tk hv hkeep htk => ?_)
  obtain ⟨t, rfl⟩ := intItems_at hv
  obtain ⟨g1, g2⟩ := argBest_lt (numAt xs) (xs.size - 1)
  have hmem : numAt xs (argBest (fun i j => decide (numAt xs i < numAt xs j)) (xs.size - 1)) ∈ ns := by
    rw [hns, numAt_eq]; exact getD_mem (by rw [List.length_map, Array.length_toList]; omega)
  have hle : numAt xs (argBest (fun i j => decide (numAt xs i < numAt xs j)) (xs.size - 1)) ≤ k := by
    rw [hns] at h1
    obtain ⟨jj, hj, e'⟩ := mem_getD h1
    rw [List.length_map, Array.length_toList] at hj
    rw [← numAt_eq] at e'
    have := g2 jj (by omega)
    rw [← e']; exact this
  have : numAt xs (argBest (fun i j => decide (numAt xs i < numAt xs j)) (xs.size - 1)) = k := Int.le_antisymm hle (h2 _ hmem)
  rw [this]
  exact h _ _ _ (Nx.grow hR tk htk hkeep) (.int _ _)
theorem OpN.max2 {a b : Int} : OpN c j (fun vs => call (.builtin "max") vs) [.int a, .int b] (.int (if b > a then b else a)) := .mk fun A env s fz vs Q E hA hR rs h => by
  obtain ⟨v, u, rfl, r, r'⟩ := rs.two
  obtain ⟨_, rfl⟩ := r.inv; obtain ⟨_, rfl⟩ := r'.inv
  refine wpAny_with_toks (Nat.le_refl s.toks) (max_two_ints hA.1 fun h' tk hk htk => ?_)
  split
  · rename_i hc; rw [if_pos hc] at h; exact h _ _ _ (Nx.grow hR tk htk hk) (.int _ _)
  · rename_i hc; rw [if_neg hc] at h; exact h _ _ _ (Nx.grow hR tk htk hk) (.int _ _)
theorem OpN.isi_str {l : List Nat} : OpN c j (fun vs => call (.builtin "isinstance") vs) [.str l, .ty "str"] (.bool true) := .mk fun A env s fz vs Q E hA hR rs h => by
  obtain ⟨v, u, rfl, r, r'⟩ := rs.two
  obtain ⟨_, rfl, _⟩ := r.inv; obtain rfl : u = _ := r'.inv
  exact IsiPair.str_str (h _ _ _ (Nx.refl hR) (.bool _))

/-! methods of a str -/
noncomputable def txt (x : Str) : List Nat := x.cps.toList
theorem mkStr'_txt (x : Str) : mkStr' (txt x) = x := by unfold mkStr' txt; simp
theorem txt_mk (l : List Nat) : txt (mkStr' l) = l := by unfold mkStr' txt; simp
theorem R.ofStr {fz : FM} {ix : IX} (x : Str) (t : Tok) (h : x.length ≤ sizeLine) : R fz ix (.str x t) (.str (txt x)) := by
  have := R.str (fz := fz) (ix := ix) (txt x) t (by unfold txt; rw [Array.length_toList]; exact h)
  rwa [show (⟨(txt x).toArray⟩ : Str) = x from mkStr'_txt x] at this
theorem strValues_of {fz : FM} {ix : IX} : ∀ {ns : List (List Nat)} {vs : List Value}, Rs fz ix vs (ns.map .str) → ∃ l : List (Str × Tok), vs = strValues l ∧ l.map (·.1) = ns.map mkStr'
  | [], vs, rs => ⟨[], by rw [rs.nil_inv]; rfl, rfl⟩
  | n :: ns, vs, rs => by
    obtain ⟨v, vs', rfl, r, rs'⟩ := rs.cons_inv
    obtain ⟨l, e1, e2⟩ := strValues_of rs'
    obtain ⟨t, rfl, _⟩ := r.inv
    exact ⟨(mkStr' n, t) :: l, by rw [e1]; rfl, by simp [e2]⟩
theorem Rs.ofStrs {fz : FM} {ix : IX} : ∀ (l : List (Str × Tok)), (∀ p ∈ l, p.1.length ≤ sizeLine) → Rs fz ix (strValues l) ((l.map (·.1)).map fun x => V.str (txt x))
  | [], _ => Rs.nil
  | p :: l, h => Rs.cons (R.ofStr p.1 p.2 (h p (.head _))) (Rs.ofStrs l fun q hq => h q (.tail _ hq))
noncomputable def joinV (sep : List Nat) (xs : List (List Nat)) : List Nat := txt (Txt.join (mkStr' sep) (xs.map mkStr'))
theorem OpN.join {sep : List Nat} {a : V} {l : List V} {ns : List (List Nat)} (ha : asL j.mu a = some l) (hs : strsOf l = some ns) (hsz : (ns.map List.length).sum + ns.length * sep.length ≤ sizeLine) :
    OpN c j (fun vs => call (.builtin "str.join") vs) [.str sep, a] (.str (joinV sep ns)) := .mk fun A env s fz vs Q E hA hR rs h => by
  obtain ⟨v, u, rfl, r, r'⟩ := rs.two
  cases r
  obtain ⟨ad, us, rfl, hls, rs', _⟩ := asL_spec hR r' ha
  rw [strsOf_spec hs] at rs'
  obtain ⟨l', rfl, e2⟩ := strValues_of rs'
  have hok : JoinOk (mkStr' sep) (ns.map mkStr') = true := by
    refine joinOk_of ?_
    have e : (ns.map mkStr').map (·.length) = ns.map List.length := by
      rw [List.map_map]; exact List.map_congr_left fun x _ => by show (x.toArray).size = x.length; exact List.size_toArray ..
    have e3 : (mkStr' sep).length = sep.length := List.size_toArray ..
    rw [e, List.length_map, e3]
    rw [sizeLine_eq] at hsz
    exact hsz
  refine wpAny_with_toks (Nat.le_refl s.toks) (SC.join (x := mkStr' sep) hls e2 hok fun t' k htk => ?_)
  exact h _ _ _ (Nx.toks hR _ htk) (R.ofStr _ _ (joinOk_length hok))
noncomputable def splitV (l sep : List Nat) : List (List Nat) := (Txt.split (mkStr' l) (mkStr' sep)).map txt
theorem parts_fit (x : Str) (cuts : List Nat) (k : Nat) (h : x.length ≤ sizeLine) : ∀ p ∈ Builtin.Str.partsBetween x cuts k, p.length ≤ sizeLine := by
  intro p hp
  unfold Builtin.Str.partsBetween at hp
  simp only [List.mem_map] at hp
  obtain ⟨q, _, rfl⟩ := hp
  exact Nat.le_trans (strSub_length_le x q.1 q.2) h
theorem Nx.strList {h₀ : Heap} {b : Bool} {s : Shared} {fz : FM} {ix : IX} {env : Env} {m : Loc} {mu : MU} (hR : Rd h₀ fz ix env s m mu) (tk : Nat) (hk : s.toks ≤ tk) (l : List (Str × Tok)) (hl : ∀ p ∈ l, p.1.length ≤ sizeLine) (hsz : l.length ≤ sizeLine) :
    Nx b s fz { s with heap := s.heap.push (listO (strValues l).toArray 0), toks := tk } (fz.put s.heap.objs.size (listO (strValues l).toArray 0)) ∧
      R (fz.put s.heap.objs.size (listO (strValues l).toArray 0)) ix (.ref s.heap.objs.size) (.lst ((l.map (·.1)).map fun x => V.str (txt x))) := by
  have n := Nx.push (b := b) hR tk hk (listO (strValues l).toArray 0)
  have rs := Rs.ofStrs (fz := fz.put s.heap.objs.size (listO (strValues l).toArray 0)) (ix := ix) l hl
  exact ⟨n, .lst (by simpa using hsz) (FM.put_self _ _ _) rfl rfl (by simpa using rs.1) (by simpa using rs.2)⟩
theorem OpN.split {l sep : List Nat} (hy : sep ≠ []) (hsz : l.length + 2 ≤ sizeLine) : OpN c j (fun vs => call (.builtin "str.split") vs) [.str l, .str sep] (.lst ((splitV l sep).map .str)) := .mk fun A env s fz vs Q E hA hR rs h => by
  obtain ⟨v, u, rfl, r, r'⟩ := rs.two
  obtain ⟨t, rfl, hl⟩ := r.inv; obtain ⟨u, rfl, hu⟩ := r'.inv
  have hx : (mkStr' l).length = l.length := List.size_toArray ..
  have hys : (mkStr' sep).length = sep.length := List.size_toArray ..
  have hy' : ((mkStr' sep).length == 0) = false := by rw [hys]; cases sep <;> simp at hy ⊢
  have e0 : (splitV l sep).map V.str = (Txt.split (mkStr' l) (mkStr' sep)).map fun x => V.str (txt x) := by unfold splitV; rw [List.map_map]; rfl
  rw [e0] at h
  have one : Txt.split (mkStr' l) (mkStr' sep) = [mkStr' l] → Q (.ref s.heap.objs.size) { s with heap := s.heap.push (listO #[.str (mkStr' l) t] 0) } := fun e => by
    rw [e] at h
    obtain ⟨n, r⟩ := Nx.strList (b := j.b) hR s.toks (Nat.le_refl _) [(mkStr' l, t)] (fun p hp => by rw [List.mem_singleton.mp hp]; show (mkStr' l).length ≤ _; rw [hx]; exact hl) (by rw [sizeLine_eq]; simp)
    exact h _ _ _ n r
  cases h1 : (decide ((mkStr' l).length < (mkStr' sep).length) || decide (Builtin.Str.strKind (mkStr' l) < Builtin.Str.strKind (mkStr' sep)))
  · cases hf : (Builtin.Str.occurrences (mkStr' l) (mkStr' sep) 0 (mkStr' l).length ((mkStr' l).length + 1)).isEmpty
    · have hn : (Builtin.Str.partsBetween (mkStr' l) (Builtin.Str.occurrences (mkStr' l) (mkStr' sep) 0 (mkStr' l).length ((mkStr' l).length + 1)) (mkStr' sep).length).length ≤ sizeLine := by
        have h3 := StrLaws.occ_length_le (mkStr' l) (mkStr' sep) 0 (mkStr' l).length ((mkStr' l).length + 1)
        rw [length_partsBetween]; rw [hx] at h3 ⊢; omega
      refine call_meets PySem.F.slot_str_split (typeIs_str _ _ _) PySem.F.entry_str_split (PySem.F.args_str_split_2 _ _) (meets_str_split_sep (mkStr' l) (mkStr' sep) t u h1 hy' hf (by rw [hx]; exact hl) hn) ?_
      show Q (.ref s.heap.objs.size) { s with toks := _, heap := s.heap.push { cls := .type "list", data := .seq (strsFrom s.toks (Builtin.Str.partsBetween (mkStr' l) (Builtin.Str.occurrences (mkStr' l) (mkStr' sep) 0 (mkStr' l).length ((mkStr' l).length + 1)) (mkStr' sep).length)).toArray } }
      have e1 : Txt.split (mkStr' l) (mkStr' sep) = Builtin.Str.partsBetween (mkStr' l) (Builtin.Str.occurrences (mkStr' l) (mkStr' sep) 0 (mkStr' l).length ((mkStr' l).length + 1)) (mkStr' sep).length :=
        (if_neg (ne_true_of_eq_false h1)).trans (if_neg (ne_true_of_eq_false hf))
      rw [e1] at h
      rw [strsFrom_eq]
      have hnum := numbered_texts s.toks (Builtin.Str.partsBetween (mkStr' l) (Builtin.Str.occurrences (mkStr' l) (mkStr' sep) 0 (mkStr' l).length ((mkStr' l).length + 1)) (mkStr' sep).length)
      generalize hP : Builtin.Str.partsBetween (mkStr' l) (Builtin.Str.occurrences (mkStr' l) (mkStr' sep) 0 (mkStr' l).length ((mkStr' l).length + 1)) (mkStr' sep).length = P at *
      have hfit : ∀ p ∈ numbered s.toks P, p.1.length ≤ sizeLine := fun p hp => by
        have : p.1 ∈ P := by rw [← hnum]; exact List.mem_map_of_mem hp
        rw [← hP] at this
        exact parts_fit _ _ _ (by rw [hx]; exact hl) _ this
      have hlen : (numbered s.toks P).length = P.length := by have := congrArg List.length hnum; simpa using this
      obtain ⟨n, r⟩ := Nx.strList (b := j.b) hR (s.toks + P.length) (by omega) (numbered s.toks P) hfit (by rw [hlen]; exact hn)
      rw [hnum] at r
      exact h _ _ _ n r
    · exact call_meets PySem.F.slot_str_split (typeIs_str _ _ _) PySem.F.entry_str_split (PySem.F.args_str_split_2 _ _) (meets_str_split_not_found (mkStr' l) (mkStr' sep) t u h1 hy' hf)
        (one ((if_neg (ne_true_of_eq_false h1)).trans (if_pos hf)))
  · exact call_meets PySem.F.slot_str_split (typeIs_str _ _ _) PySem.F.entry_str_split (PySem.F.args_str_split_2 _ _) (meets_str_split_cannot_occur (mkStr' l) (mkStr' sep) t u h1)
      (one (if_pos h1))
noncomputable def findV (l sep : List Nat) : Int := Txt.find (mkStr' l) (mkStr' sep)
theorem OpN.find {l sep : List Nat} : OpN c j (fun vs => call (.builtin "str.find") vs) [.str l, .str sep] (.int (findV l sep)) := .mk fun A env s fz vs Q E hA hR rs h => by
  obtain ⟨v, u, rfl, r, r'⟩ := rs.two
  obtain ⟨_, rfl, _⟩ := r.inv; obtain ⟨_, rfl, _⟩ := r'.inv
  exact SC.find (x := mkStr' l) (y := mkStr' sep) (h _ _ _ (Nx.toks hR _ (by simp)) (.int _ _))
noncomputable def find3V (l sep : List Nat) (i : Int) : Int := Txt.find3 (mkStr' l) (mkStr' sep) i
theorem OpN.find3 {l sep : List Nat} {i : Int} : OpN c j (fun vs => call (.builtin "str.find") vs) [.str l, .str sep, .int i] (.int (find3V l sep i)) := .mk fun A env s fz vs Q E hA hR rs h => by
  obtain ⟨v, u, w, rfl, r, r', r''⟩ := rs.three
  obtain ⟨_, rfl, _⟩ := r.inv; obtain ⟨_, rfl, _⟩ := r'.inv; obtain ⟨_, rfl⟩ := r''.inv
  exact SC.find3 (x := mkStr' l) (y := mkStr' sep) (h _ _ _ (Nx.toks hR _ (by simp)) (.int _ _))
noncomputable def countV (l sep : List Nat) : Int := Txt.count (mkStr' l) (mkStr' sep)
theorem OpN.count {l sep : List Nat} : OpN c j (fun vs => call (.builtin "str.count") vs) [.str l, .str sep] (.int (countV l sep)) := .mk fun A env s fz vs Q E hA hR rs h => by
  obtain ⟨v, u, rfl, r, r'⟩ := rs.two
  obtain ⟨_, rfl, _⟩ := r.inv; obtain ⟨_, rfl, _⟩ := r'.inv
  exact SC.count (x := mkStr' l) (y := mkStr' sep) (h _ _ _ (Nx.toks hR _ (by simp)) (.int _ _))

/-! replace: its two strs must be two things -/
noncomputable def replV (l y z : List Nat) : List Nat := txt (Txt.replace (mkStr' l) (mkStr' y) (mkStr' z))
theorem replace_length_le (x y z : Str) (hb : x.length + (x.length + 1) * z.length ≤ 16777216) (hx : x.length ≤ sizeLine) : (Txt.replace x y z).length ≤ sizeLine := by
  unfold Txt.replace
  split
  · exact hx
  · exact fits_replaced y hb
theorem EvS.repl1 {o : PySem.Expr} {apos pos : Pos} {l : List Nat} {y z : Str} {k1 k2 : Nat} {p1 p2 : Pos} (hbase : ∀ env, attributeBase o "replace" env (eval o env) = eval o env) (hline : (apos.endLine == pos.line) = true)
    (ho : EvS c j (eval o) (.str l)) (hyz : (y == z) = false) (hb : l.length + (l.length + 1) * z.length ≤ 16777216) :
    EvS c j (eval (.Call (.Attribute o "replace" apos) [.Constant (.str y) k1 p1, .Constant (.str z) k2 p2] [] pos)) (.str (replV l (txt y) (txt z))) := .mk fun A env s fz Q E hA he hR h => by
  refine wpAny_Call_method (hbase env) rfl hline PySem.F.plainAttrs_str PySem.F.slot_str_replace PySem.F.type_str_replace ?_
  refine ho A env s fz _ _ hA he hR fun v s1 fz1 n1 r1 => ?_
  have hR1 := hR.next n1
  obtain ⟨t, rfl, hl⟩ := r1.inv
  refine ⟨typeIs_str _ _ _, (fun ad e => nomatch e), ?_⟩
  refine callWith_builtin (first := [_]) rfl (evalArgs_plain ?_)
  show wpAny c.M A (do
    let v ← eval (.Constant (.str y) k1 p1) env
    let here ← pure [v]
    return here ++ (← holding here (spliced [(false, eval (.Constant (.str z) k2 p2) env)]))) _ E s1
  refine wpAny_bind (wpAny_Constant_str ?_)
  refine wpAny_bind (wpAny_pure ?_)
  refine wpAny_bind (wpAny_holding ?_)
  show wpAny c.M A (do
    let v ← eval (.Constant (.str z) k2 p2) env
    let here ← pure [v]
    return here ++ (← holding here (spliced []))) _ E _
  refine wpAny_bind (wpAny_Constant_str ?_)
  refine wpAny_bind (wpAny_pure ?_)
  refine wpAny_bind (wpAny_holding (wpAny_pure (wpAny_pure (wpAny_pure ?_))))
  have h1 : 1 ≤ s1.toks := Nat.le_trans hR1.t0 hR1.tT
  have hx : (mkStr' l).length = l.length := List.size_toArray ..
  have hb' : (mkStr' l).length + ((mkStr' l).length + 1) * z.length ≤ 16777216 := by rw [hx]; exact hb
  have a1 : s1.toks ≠ 0 := by omega
  have a2 : s1.toks + 1 ≠ 0 := by omega
  have a3 : s1.toks ≠ s1.toks + 1 := by omega
  refine wpAny_with_toks (n := s1.toks) (by show s1.toks ≤ s1.toks + 1 + 1; omega) (SC.replace (x := mkStr' l) (y := y) (z := z) (u := s1.toks) (v := s1.toks + 1) a1 a2 a3 hyz hb' fun t' k htk => ?_)
  have e : Txt.replace (mkStr' l) y z = Txt.replace (mkStr' l) (mkStr' (txt y)) (mkStr' (txt z)) := by rw [mkStr'_txt, mkStr'_txt]
  rw [e]
  refine h _ _ _ (n1.trans (Nx.toks hR1 _ htk)) (R.ofStr _ _ (replace_length_le _ _ _ ?_ (by rw [hx]; exact hl)))
  rw [mkStr'_txt]; exact hb'
end Mine

end
section
open PySem PySem.Calls PySem.W PyProof.Rows
set_option Elab.async false
set_option autoImplicit false
set_option linter.unusedVariables false
set_option maxRecDepth 100000
namespace Mine
variable {c : C} {j : J}

/-! the compiled patterns: facts of the builtins -/
theorem pa_pattern : PlainAttrs "re.Pattern" :=
  ⟨⟨"object.__getattribute__", by rw [typeLookup_type, builtinLookup_eq_fast]; kernel_rfl, by decide +kernel⟩, by rw [typeLookup_type, builtinLookup_eq_fast]; kernel_rfl⟩
theorem slot_sub : Slot "re.Pattern" "sub" "re.Pattern.sub" :=
  .of (owner := "re.Pattern") (n := "sub") (by rw [typeLookup_type, builtinLookup_eq_fast]; kernel_rfl) (by decide +kernel) (by decide +kernel) (by decide +kernel)
    (by first | exact .inl (by decide +kernel) | exact .inr (by decide +kernel)) (by rw [isSubtype_type]; kernel_rfl)
theorem type_sub : typeOf (.builtin "re.Pattern.sub") = pure (.type "method_descriptor") := by show builtinType _ = _; rw [builtinType_eq_fast]; kernel_rfl
theorem entry_sub : entryFor table "re.Pattern.sub" = some Builtin.«re.Pattern.sub» := entryFor_of_tree (by kernel_rfl)
theorem args_sub (a b d : Value) : argsOk "re.Pattern.sub" ⟨[a, b, d], []⟩ := by unfold argsOk; kernel_rfl
theorem plain_subloop : plainId "re.Pattern.sub.loop" = true := by decide +kernel
theorem entry_subloop : entryFor table "re.Pattern.sub.loop" = some Builtin.«re.Pattern.sub.loop» := entryFor_of_fast (by kernel_rfl)

end Mine

end
section
set_option autoImplicit false
set_option linter.unusedVariables false
set_option maxRecDepth 100000
namespace Mine
open PySem PySem.Sre

noncomputable def eolC : Array Nat := #[14, 9, 4, 1, 2, 16, 10, 16, 13, 0, 7, 7, 16, 13, 16, 10, 15, 18, 5, 16, 10, 15, 13, 11, 16, 13, 5, 5, 0, 16, 10, 1, 15, 2, 0, 1]

theorem runFor_done {m : M} (h : m.outcome.isSome = true) : ∀ n, M.runFor n m = m
  | 0 => rfl
  | n + 1 => by unfold M.runFor; rw [if_pos h]
theorem runFor_eq (n : Nat) (m : M) : M.runFor (n + 1) m = if m.outcome.isSome then m else M.runFor n m.step := rfl
theorem runFor_add (a : Nat) : ∀ (b : Nat) (m : M), M.runFor (b + a) m = M.runFor a (M.runFor b m)
  | 0, m => by rw [Nat.zero_add]; rfl
  | b + 1, m => by
    rw [show b + 1 + a = (b + a) + 1 by omega, runFor_eq, runFor_eq]
    by_cases h : m.outcome.isSome = true
    · rw [if_pos h, if_pos h, runFor_done h]
    · rw [if_neg h, if_neg h, runFor_add a b]
theorem runFor_succ {m : M} (n : Nat) (h : m.outcome = none) : M.runFor (n + 1) m = M.runFor n m.step := by
  rw [show M.runFor (n + 1) m = if m.outcome.isSome then m else M.runFor n m.step from rfl, h]; rfl

noncomputable def isEol (c : Nat) : Bool := c == 10 || c == 13
theorem inSet_eol (c : Nat) (seen : Seen) : ∃ seen', inSet eolC c eolC.size 5 true seen = .ok (isEol c, seen') := by
  show ∃ seen', inSet eolC c (35 + 1) 5 true seen = _
  by_cases h1 : c = 10
  · subst h1; exact ⟨_, rfl⟩
  · by_cases h2 : c = 13
    · subst h2; exact ⟨_, rfl⟩
    · have e1 : (c == 10) = false := by simpa using h1
      have e2 : (c == 13) = false := by simpa using h2
      refine ⟨((seen.add 16).add 16).add 0, ?_⟩
      have s1 : ∀ seen, inSet eolC c (35 + 1) 5 true seen = if c == 10 then .ok (true, seen.add 16) else inSet eolC c 35 7 true (seen.add 16) := fun _ => rfl
      have s2 : ∀ seen, inSet eolC c 35 7 true seen = if c == 13 then .ok (true, seen.add 16) else inSet eolC c 34 9 true (seen.add 16) := fun _ => rfl
      have s3 : ∀ seen, inSet eolC c 34 9 true seen = .ok (false, seen.add 0) := fun _ => rfl
      rw [s1, s2, s3, e1, e2]
      simp [isEol, e1, e2]

/-- the machine while it tries at i -/
noncomputable def eS (text : Array Nat) (i : Nat) (pc pos handed : Nat) (outer : Bool) (frames : List PySem.Sre.Frame) (weight : Nat) (answer : Option Bool) (seen : Seen) (outcome : Option PySem.Sre.Outcome) : M :=
  { code := eolC, text, lim := text.size, start := i, lastStart := text.size, pc, pos, handed, outermost := outer, marks := #[], frames, weight, answer, seen, outcome }
noncomputable abbrev f0 (i : Nat) : PySem.Sre.Frame := { wait := .nextStart, pc := 10, pos := i, outermost := true }
noncomputable abbrev fb (pc i : Nat) : PySem.Sre.Frame := { wait := .nextBranch, pc := pc, pos := i, outermost := true, kept := { lastmark := -1, lastindex := -1, whole := false, marks := #[] } }
noncomputable abbrev fl (i : Nat) : PySem.Sre.Frame := { wait := .lookNot, pc := 26, pos := i, outermost := true, kept := { lastmark := -1, lastindex := -1, whole := false, marks := #[] } }

section
variable {text : Array Nat} {i : Nat}
/-- what a literal's step does -/
noncomputable abbrev LitAt (text : Array Nat) (i pc k : Nat) : Prop := ∀ (pos handed w : Nat) (outer : Bool) (frames : List PySem.Sre.Frame) (seen : Seen), (eS text i pc pos handed outer frames w none seen none).step =
  if pos ≥ text.size then eS text i pc pos handed outer frames w (some false) (seen.add 16) none else
    cond (text.getD pos 0 == k) (eS text i (pc + 2) (pos + 1) handed outer frames w none (seen.add 16) none) (eS text i pc pos handed outer frames w (some false) (seen.add 16) none)
theorem lit_step {pc pos handed w : Nat} {outer : Bool} {frames : List PySem.Sre.Frame} {k : Nat} {seen : Seen} (H : LitAt text i pc k) (hl : pos < text.size) (hc : text.getD pos 0 = k) :
    (eS text i pc pos handed outer frames w none seen none).step = eS text i (pc + 2) (pos + 1) handed outer frames w none (seen.add 16) none := by
  rw [H, if_neg (Nat.not_le.mpr hl), hc, beq_self_eq_true]; rfl
theorem lit_fail {pc pos handed w : Nat} {outer : Bool} {frames : List PySem.Sre.Frame} {k : Nat} {seen : Seen} (H : LitAt text i pc k) (hc : ¬ (pos < text.size ∧ text.getD pos 0 = k)) :
    (eS text i pc pos handed outer frames w none seen none).step = eS text i pc pos handed outer frames w (some false) (seen.add 16) none := by
  rw [H]
  by_cases hl : pos ≥ text.size
  · exact if_pos hl
  · rw [if_neg hl, beq_eq_false_iff_ne.mpr fun e => hc ⟨Nat.not_le.mp hl, e⟩]; rfl
/-- from a success on -/
theorem eol_success {pos handed w : Nat} {pc : Nat} {seen : Seen} : ∃ m, M.runFor 4 (eS text i 35 pos handed true [fb pc i, f0 i] w none seen none) = m ∧ m.outcome = some .matched ∧ m.start = i ∧ m.handed = pos ∧ m.lastmark = -1 :=
  ⟨_, rfl, rfl, rfl, rfl, rfl⟩

theorem run_step {m m' : M} (h : m.step = m') (ho : m.outcome = none) {n : Nat} {P : M → Prop} (k : ∃ x, M.runFor n m' = x ∧ P x) : ∃ x, M.runFor (n + 1) m = x ∧ P x := by
  rw [runFor_succ n ho, h]; exact k
noncomputable def eolLen (text : Array Nat) (i : Nat) : Nat := if text.getD i 0 = 13 ∧ i + 1 < text.size ∧ text.getD (i + 1) 0 = 10 then 2 else 1
theorem eol_match (hi : i < text.size) (hc : text.getD i 0 = 10 ∨ text.getD i 0 = 13) (seen : Seen) :
    ∃ n m, n ≤ 20 ∧ M.runFor n (eS text i 10 i i true [f0 i] 1 none seen none) = m ∧ m.outcome = some .matched ∧ m.start = i ∧ m.handed = i + eolLen text i ∧ m.lastmark = -1 := by
  have a1 : ∀ seen, (eS text i 10 i i true [f0 i] 1 none seen none).step = eS text i 12 i i true [fb 11 i, f0 i] 2 none (seen.add 7) none := fun _ => rfl
  have j16 : ∀ pos h w seen, (eS text i 16 pos h true [fb 11 i, f0 i] w none seen none).step = eS text i 35 pos h true [fb 11 i, f0 i] w none (seen.add 15) none := fun _ _ _ _ => rfl
  have j21 : ∀ pos h w seen, (eS text i 21 pos h true [fb 18 i, f0 i] w none seen none).step = eS text i 35 pos h true [fb 18 i, f0 i] w none (seen.add 15) none := fun _ _ _ _ => rfl
  have j32 : ∀ pos h w seen, (eS text i 32 pos h true [fb 23 i, f0 i] w none seen none).step = eS text i 35 pos h true [fb 23 i, f0 i] w none (seen.add 15) none := fun _ _ _ _ => rfl
  have b1 : ∀ pc pos h seen, (eS text i pc pos h true [fb 11 i, f0 i] 2 (some false) seen none).step = eS text i 19 i i true [fb 18 i, f0 i] 2 none seen none := fun _ _ _ _ => rfl
  have b2 : ∀ pc pos h seen, (eS text i pc pos h true [fb 18 i, f0 i] 2 (some false) seen none).step = eS text i 24 i i true [fb 23 i, f0 i] 2 none seen none := fun _ _ _ _ => rfl
  have n1 : ∀ h seen, (eS text i 26 (i + 1) h true [fb 23 i, f0 i] 2 none seen none).step = eS text i 29 (i + 1) (i + 1) false [fl (i + 1), fb 23 i, f0 i] 3 none (seen.add 5) none := fun h seen => rfl
  have n2 : ∀ pc pos h o seen, (eS text i pc pos h o [fl (i + 1), fb 23 i, f0 i] 3 (some false) seen none).step = eS text i 32 (i + 1) h true [fb 23 i, f0 i] 2 none seen none := fun _ _ _ _ _ => rfl
  have l12 : LitAt text i 12 13 := fun _ _ _ _ _ _ => by kernel_rfl
  have l14 : LitAt text i 14 10 := fun _ _ _ _ _ _ => by kernel_rfl
  have l19 : LitAt text i 19 10 := fun _ _ _ _ _ _ => by kernel_rfl
  have l24 : LitAt text i 24 13 := fun _ _ _ _ _ _ => by kernel_rfl
  have l29 : LitAt text i 29 10 := fun _ _ _ _ _ _ => by kernel_rfl
  unfold eolLen
  by_cases h13 : text.getD i 0 = 13
  · by_cases hn : i + 1 < text.size ∧ text.getD (i + 1) 0 = 10
    · rw [if_pos ⟨h13, hn⟩]
      obtain ⟨m, h1, h2⟩ := run_step (a1 seen) rfl (run_step (lit_step l12 hi h13) rfl (run_step (lit_step l14 hn.1 hn.2) rfl (run_step (j16 _ _ _ _) rfl eol_success)))
      exact ⟨8, m, by decide, h1, h2⟩
    · rw [if_neg fun q => hn q.2]
      have hne : ¬ (i < text.size ∧ text.getD i 0 = 10) := fun q => by rw [h13] at q; exact absurd q.2 (by decide)
      obtain ⟨m, h1, h2⟩ := run_step (a1 seen) rfl (run_step (lit_step l12 hi h13) rfl (run_step (lit_fail l14 hn) rfl (run_step (b1 _ _ _ _) rfl (run_step (lit_fail l19 hne) rfl
        (run_step (b2 _ _ _ _) rfl (run_step (lit_step l24 hi h13) rfl (run_step (n1 _ _) rfl (run_step (lit_fail l29 hn) rfl (run_step (n2 _ _ _ _ _) rfl (run_step (j32 _ _ _ _) rfl eol_success))))))))))
      exact ⟨15, m, by decide, h1, h2⟩
  · have h10 : text.getD i 0 = 10 := hc.resolve_right h13
    rw [if_neg fun q => h13 q.1]
    have hne : ¬ (i < text.size ∧ text.getD i 0 = 13) := fun q => by rw [h10] at q; exact absurd q.2 (by decide)
    obtain ⟨m, h1, h2⟩ := run_step (a1 seen) rfl (run_step (lit_fail l12 hne) rfl (run_step (b1 _ _ _ _) rfl (run_step (lit_step l19 hi h10) rfl (run_step (j21 _ _ _ _) rfl eol_success))))
    exact ⟨9, m, by decide, h1, h2⟩
end

noncomputable def eB (text : Array Nat) (s last : Nat) : M := { code := eolC, text, lim := text.size, start := s, lastStart := last, pc := 10, pos := s, handed := s, marks := #[], seen := ({} : Seen).add 14 }
theorem eol_forSearch (text : Array Nat) (s : Nat) : forSearch eolC text 0 s text.size false = if s > text.size || text.size - s < 1 then (eB text s 0).say false else (eB text s text.size).attemptFrom s true := rfl
theorem admitted_some {text : Array Nat} {last s0 : Nat} : ∀ (fuel s i : Nat) (seen : Seen), s ≤ i → i < text.size → i - s < fuel → (∀ k, s ≤ k → k < i → isEol (text.getD k 0) = false) → isEol (text.getD i 0) = true →
    ∃ seen', (eB text s0 last).admitted fuel s seen = .ok (some i, seen')
  | 0, s, i, seen, _, _, h, _, _ => by omega
  | fuel + 1, s, i, seen, hs, hi, hf, hn, he => by
    obtain ⟨sn, e⟩ := inSet_eol (text.getD s 0) seen
    have hd : (eB text s0 last).admitted (fuel + 1) s seen = if s ≥ text.size then .ok (none, seen) else match inSet eolC (text.getD s 0) eolC.size 5 true seen with
      | .ok (true, seen) => .ok (some s, seen)
      | .ok (false, seen) => (eB text s0 last).admitted fuel (s + 1) seen
      | .error why => .error why := rfl
    rw [hd, if_neg (by omega), e]
    by_cases hq : s = i
    · subst hq; rw [he]; exact ⟨_, rfl⟩
    · rw [hn s (Nat.le_refl _) (by omega)]
      exact admitted_some fuel (s + 1) i sn (by omega) hi (by omega) (fun k h1 h2 => hn k (by omega) h2) he
theorem admitted_none {text : Array Nat} {last s0 : Nat} : ∀ (fuel s : Nat) (seen : Seen), (∀ k, s ≤ k → k < text.size → isEol (text.getD k 0) = false) →
    ∃ seen', (eB text s0 last).admitted fuel s seen = .ok (none, seen')
  | 0, s, seen, _ => ⟨_, rfl⟩
  | fuel + 1, s, seen, hn => by
    obtain ⟨sn, e⟩ := inSet_eol (text.getD s 0) seen
    have hd : (eB text s0 last).admitted (fuel + 1) s seen = if s ≥ text.size then .ok (none, seen) else match inSet eolC (text.getD s 0) eolC.size 5 true seen with
      | .ok (true, seen) => .ok (some s, seen)
      | .ok (false, seen) => (eB text s0 last).admitted fuel (s + 1) seen
      | .error why => .error why := rfl
    rw [hd]
    by_cases hq : s ≥ text.size
    · rw [if_pos hq]; exact ⟨_, rfl⟩
    · rw [if_neg hq, e, hn s (Nat.le_refl _) (by omega)]
      exact admitted_none fuel (s + 1) sn (fun k h1 h2 => hn k (by omega) h2)
theorem isEol_iff {c : Nat} : isEol c = true ↔ c = 10 ∨ c = 13 := by simp [isEol]
/-- the search finds the first line end -/
theorem eol_search {text : Array Nat} {s i : Nat} (hs : s ≤ i) (hi : i < text.size) (hn : ∀ k, s ≤ k → k < i → isEol (text.getD k 0) = false) (he : isEol (text.getD i 0) = true) :
    ∃ n m, n ≤ 20 ∧ M.runFor n (forSearch eolC text 0 s text.size false) = m ∧ m.outcome = some .matched ∧ m.start = i ∧ m.handed = i + eolLen text i ∧ m.lastmark = -1 := by
  rw [eol_forSearch, if_neg (by simp; omega)]
  obtain ⟨sn, e⟩ := admitted_some (last := text.size) (s0 := s) (text.size + 1 - s) s i (({} : Seen).add 14) hs hi (by omega) hn he
  have hd : (eB text s text.size).attemptFrom s true = match (eB text s text.size).admitted (text.size + 1 - s) s (({} : Seen).add 14) with
    | .ok (some s', seen) => { eB text s text.size with mustAdvance := false, seen }.attemptAt s' true
    | .ok (none, seen) => { eB text s text.size with seen }.say false
    | .error why => (eB text s text.size).stick why := rfl
  rw [hd, e]
  exact eol_match hi (isEol_iff.mp he) sn
theorem eol_search_none {text : Array Nat} {s : Nat} (hn : ∀ k, s ≤ k → k < text.size → isEol (text.getD k 0) = false) :
    ∃ m, M.runFor 1 (forSearch eolC text 0 s text.size false) = m ∧ m.outcome = some .failed := by
  rw [eol_forSearch]
  by_cases hq : (s > text.size || text.size - s < 1) = true
  · rw [if_pos hq]; exact ⟨_, rfl, rfl⟩
  · rw [if_neg hq]
    obtain ⟨sn, e⟩ := admitted_none (last := text.size) (s0 := s) (text.size + 1 - s) s (({} : Seen).add 14) hn
    have hd : (eB text s text.size).attemptFrom s true = match (eB text s text.size).admitted (text.size + 1 - s) s (({} : Seen).add 14) with
      | .ok (some s', seen) => { eB text s text.size with mustAdvance := false, seen }.attemptAt s' true
      | .ok (none, seen) => { eB text s text.size with seen }.say false
      | .error why => (eB text s text.size).stick why := rfl
    rw [hd, e]
    exact ⟨_, rfl, rfl⟩
end Mine

end
section
set_option autoImplicit false
set_option linter.unusedVariables false
set_option maxRecDepth 100000
namespace Mine
open PySem PySem.Sre

noncomputable def dotC : Array Nat := #[14, 4, 0, 1, 1, 6, 1, 16, 46, 1]
noncomputable def dS (text : Array Nat) (i : Nat) (pc pos handed : Nat) (outer : Bool) (frames : List PySem.Sre.Frame) (weight : Nat) (answer : Option Bool) (seen : Seen) (outcome : Option PySem.Sre.Outcome) : M :=
  { code := dotC, text, lim := text.size, start := i, lastStart := text.size, pc, pos, handed, outermost := outer, marks := #[], frames, weight, answer, seen, outcome }
noncomputable abbrev g0 (i : Nat) (o : Bool) : PySem.Sre.Frame := { wait := .nextStart, pc := 5, pos := i, outermost := o }
noncomputable def atRow (text : Array Nat) (i : Nat) : Bool := i == 0 || text.getD (i - 1) 0 == 10
noncomputable def isDot (text : Array Nat) (i : Nat) : Bool := atRow text i && (decide (i < text.size) && text.getD i 0 == 46)
section
variable {text : Array Nat} {i : Nat} {o : Bool} {seen : Seen}
theorem dot_at : (dS text i 5 i i o [g0 i o] 1 none seen none).step = if atRow text i then dS text i 7 i i o [g0 i o] 1 none ((seen.add 6).add 44) none else dS text i 5 i i o [g0 i o] 1 (some false) ((seen.add 6).add 44) none := by
  have e : (dS text i 5 i i o [g0 i o] 1 none seen none).step = if (i == 0 || text.getD (i - 1) 0 == 10) = true then dS text i 7 i i o [g0 i o] 1 none ((seen.add 6).add 44) none else dS text i 5 i i o [g0 i o] 1 (some false) ((seen.add 6).add 44) none := rfl
  rw [e]; rfl
theorem dot_lit (hl : i < text.size) (hc : text.getD i 0 = 46) : (dS text i 7 i i o [g0 i o] 1 none seen none).step = dS text i 9 (i + 1) i o [g0 i o] 1 none (seen.add 16) none := by
  have e : (dS text i 7 i i o [g0 i o] 1 none seen none).step = if i ≥ text.size then dS text i 7 i i o [g0 i o] 1 (some false) (seen.add 16) none else
    match (Except.ok (text.getD i 0 == 46, seen.add 16) : Except String (Bool × Seen)) with
    | .error why => (dS text i 7 i i o [g0 i o] 1 none (seen.add 16) none).stick why
    | .ok (false, sn) => dS text i 7 i i o [g0 i o] 1 (some false) sn none
    | .ok (true, sn) => dS text i 9 (i + 1) i o [g0 i o] 1 none sn none := rfl
  rw [e, if_neg (by omega), hc]; rfl
theorem dot_lit_no (hc : ¬ (i < text.size ∧ text.getD i 0 = 46)) : ∃ sn, (dS text i 7 i i o [g0 i o] 1 none seen none).step = dS text i 7 i i o [g0 i o] 1 (some false) sn none := by
  have e : (dS text i 7 i i o [g0 i o] 1 none seen none).step = if i ≥ text.size then dS text i 7 i i o [g0 i o] 1 (some false) (seen.add 16) none else
    match (Except.ok (text.getD i 0 == 46, seen.add 16) : Except String (Bool × Seen)) with
    | .error why => (dS text i 7 i i o [g0 i o] 1 none (seen.add 16) none).stick why
    | .ok (false, sn) => dS text i 7 i i o [g0 i o] 1 (some false) sn none
    | .ok (true, sn) => dS text i 9 (i + 1) i o [g0 i o] 1 none sn none := rfl
  rw [e]
  by_cases h : i ≥ text.size
  · rw [if_pos h]; exact ⟨_, rfl⟩
  · rw [if_neg h]
    have : (text.getD i 0 == 46) = false := by rw [beq_eq_false_iff_ne]; intro q; exact hc ⟨by omega, q⟩
    rw [this]; exact ⟨_, rfl⟩
theorem dot_success {pos h : Nat} : ∃ m, M.runFor 3 (dS text i 9 pos h o [g0 i o] 1 none seen none) = m ∧ m.outcome = some .matched ∧ m.start = i ∧ m.handed = pos ∧ m.lastmark = -1 := by
  have e : (dS text i 9 pos h o [g0 i o] 1 none seen none).step = if (o && (false && pos != text.size || false && pos == i)) = true then dS text i 9 pos h o [g0 i o] 1 (some false) (seen.add 1) none else dS text i 9 pos pos o [g0 i o] 1 (some true) (seen.add 1) none := rfl
  rw [runFor_succ 2 rfl, e, if_neg (by simp)]
  exact ⟨_, rfl, rfl, rfl, rfl, rfl⟩
theorem dot_back {pc : Nat} : (dS text i pc i i o [g0 i o] 1 (some false) seen none).step = if i < text.size then dS text (i + 1) 5 (i + 1) (i + 1) false [g0 (i + 1) false] 1 none seen none else dS text i 5 i i o [] 0 (some false) seen none := rfl
/-- one try that fails: two or three steps, then the next place -/
theorem isDot_no (hn : isDot text i = false) (ha : atRow text i = true) : ¬ (i < text.size ∧ text.getD i 0 = 46) := fun q => by
  unfold isDot at hn
  rw [ha, decide_eq_true q.1, q.2] at hn
  cases hn
theorem dot_try_no (hn : isDot text i = false) (hi : i < text.size) : ∃ n sn, n ≤ 3 ∧ M.runFor n (dS text i 5 i i o [g0 i o] 1 none seen none) = dS text (i + 1) 5 (i + 1) (i + 1) false [g0 (i + 1) false] 1 none sn none := by
  cases ha : atRow text i with
  | false =>
    refine ⟨2, (seen.add 6).add 44, by decide, ?_⟩
    rw [runFor_succ 1 rfl, dot_at, ha, if_neg Bool.false_ne_true, runFor_succ 0 rfl, dot_back, if_pos hi]
    rfl
  | true =>
    obtain ⟨sn, e⟩ := dot_lit_no (o := o) (i := i) (text := text) (seen := (seen.add 6).add 44) (isDot_no hn ha)
    refine ⟨3, sn, by decide, ?_⟩
    rw [runFor_succ 2 rfl, dot_at, ha, if_pos rfl, runFor_succ 1 rfl, e, runFor_succ 0 rfl, dot_back, if_pos hi]
    rfl
theorem dot_end {seen : Seen} : ∃ m, M.runFor 1 (dS text i 5 i i o [] 0 (some false) seen none) = m ∧ m.outcome = some .failed := ⟨_, rfl, rfl⟩
theorem dot_last_no (hn : isDot text i = false) (hi : ¬ i < text.size) : ∃ n m, n ≤ 4 ∧ M.runFor n (dS text i 5 i i o [g0 i o] 1 none seen none) = m ∧ m.outcome = some .failed := by
  cases ha : atRow text i with
  | false =>
    obtain ⟨m, h1, h2⟩ := dot_end (text := text) (i := i) (o := o) (seen := (seen.add 6).add 44)
    refine ⟨3, m, by decide, ?_, h2⟩
    rw [runFor_succ 2 rfl, dot_at, ha, if_neg Bool.false_ne_true, runFor_succ 1 rfl, dot_back, if_neg hi]
    exact h1
  | true =>
    obtain ⟨sn, e⟩ := dot_lit_no (o := o) (i := i) (text := text) (seen := (seen.add 6).add 44) (fun q => hi q.1)
    obtain ⟨m, h1, h2⟩ := dot_end (text := text) (i := i) (o := o) (seen := sn)
    refine ⟨4, m, by decide, ?_, h2⟩
    rw [runFor_succ 3 rfl, dot_at, ha, if_pos rfl, runFor_succ 2 rfl, e, runFor_succ 1 rfl, dot_back, if_neg hi]
    exact h1
theorem dot_yes (hy : isDot text i = true) : ∃ n m, n ≤ 5 ∧ M.runFor n (dS text i 5 i i o [g0 i o] 1 none seen none) = m ∧ m.outcome = some .matched ∧ m.start = i ∧ m.handed = i + 1 ∧ m.lastmark = -1 := by
  unfold isDot at hy
  simp only [Bool.and_eq_true, decide_eq_true_eq, beq_iff_eq] at hy
  obtain ⟨m, h1, h2⟩ := dot_success (text := text) (i := i) (o := o) (seen := ((seen.add 6).add 44).add 16) (pos := i + 1) (h := i)
  refine ⟨5, m, by decide, ?_, h2⟩
  rw [runFor_succ 4 rfl, dot_at, hy.1, if_pos rfl, runFor_succ 3 rfl, dot_lit hy.2.1 hy.2.2]
  exact h1
end
theorem dot_from {text : Array Nat} : ∀ (d s i : Nat) (o : Bool) (seen : Seen), i - s = d → s ≤ i → i < text.size → (∀ k, s ≤ k → k < i → isDot text k = false) → isDot text i = true →
    ∃ n m, n ≤ 3 * d + 5 ∧ M.runFor n (dS text s 5 s s o [g0 s o] 1 none seen none) = m ∧ m.outcome = some .matched ∧ m.start = i ∧ m.handed = i + 1 ∧ m.lastmark = -1
  | 0, s, i, o, seen, hd, hs, hi, _, hy => by
    have : s = i := by omega
    subst this
    obtain ⟨n, m, h1, h2⟩ := dot_yes (o := o) (seen := seen) hy
    exact ⟨n, m, by omega, h2⟩
  | d + 1, s, i, o, seen, hd, hs, hi, hn, hy => by
    obtain ⟨n1, sn, h1, e1⟩ := dot_try_no (o := o) (seen := seen) (hn s (Nat.le_refl _) (by omega)) (by omega)
    obtain ⟨n2, m, h2, e2, r⟩ := dot_from d (s + 1) i false sn (by omega) (by omega) hi (fun k a b => hn k (by omega) b) hy
    exact ⟨n1 + n2, m, by omega, by rw [runFor_add, e1, e2], r⟩
theorem dot_none {text : Array Nat} : ∀ (d s : Nat) (o : Bool) (seen : Seen), text.size - s = d → (∀ k, s ≤ k → k < text.size → isDot text k = false) →
    ∃ n m, n ≤ 3 * d + 4 ∧ M.runFor n (dS text s 5 s s o [g0 s o] 1 none seen none) = m ∧ m.outcome = some .failed
  | 0, s, o, seen, hd, hn => by
    have : isDot text s = false := by unfold isDot; rw [decide_eq_false (by omega)]; simp
    obtain ⟨n, m, h1, h2⟩ := dot_last_no (o := o) (seen := seen) this (by omega)
    exact ⟨n, m, by omega, h2⟩
  | d + 1, s, o, seen, hd, hn => by
    obtain ⟨n1, sn, h1, e1⟩ := dot_try_no (o := o) (seen := seen) (hn s (Nat.le_refl _) (by omega)) (by omega)
    obtain ⟨n2, m, h2, e2, r⟩ := dot_none d (s + 1) false sn (by omega) (fun k a b => hn k (by omega) b)
    exact ⟨n1 + n2, m, by omega, by rw [runFor_add, e1, e2], r⟩
theorem dot_forSearch (text : Array Nat) (s : Nat) : ∃ b : M, b.outcome = none ∧ b.answer = none ∧ b.frames = [] ∧ forSearch dotC text 0 s text.size false = if s > text.size || text.size - s < 1 then b.say false else dS text s 5 s s true [g0 s true] 1 none (({} : Seen).add 14) none := ⟨_, rfl, rfl, rfl, rfl⟩
theorem dot_search {text : Array Nat} {s i : Nat} (hs : s ≤ i) (hi : i < text.size) (hn : ∀ k, s ≤ k → k < i → isDot text k = false) (he : isDot text i = true) :
    ∃ n m, n ≤ 3 * text.size + 5 ∧ M.runFor n (forSearch dotC text 0 s text.size false) = m ∧ m.outcome = some .matched ∧ m.start = i ∧ m.handed = i + 1 ∧ m.lastmark = -1 := by
  obtain ⟨b, _, _, _, e⟩ := dot_forSearch text s
  rw [e, if_neg (by simp; omega)]
  obtain ⟨n, m, h1, h2⟩ := dot_from (i - s) s i true (({} : Seen).add 14) rfl hs hi hn he
  exact ⟨n, m, by omega, h2⟩
theorem dot_search_none {text : Array Nat} {s : Nat} (hn : ∀ k, s ≤ k → k < text.size → isDot text k = false) :
    ∃ n m, n ≤ 3 * text.size + 5 ∧ M.runFor n (forSearch dotC text 0 s text.size false) = m ∧ m.outcome = some .failed := by
  obtain ⟨b, b1, b2, b3, e⟩ := dot_forSearch text s
  rw [e]
  by_cases hq : (s > text.size || text.size - s < 1) = true
  · rw [if_pos hq]
    refine ⟨1, _, by omega, rfl, ?_⟩
    rw [runFor_succ 0 (by exact b1)]
    show (M.step (b.say false)).outcome = _
    unfold M.step
    rw [show (b.say false).outcome = none from b1]
    simp only [Option.isSome_none, Bool.false_eq_true, if_false]
    rw [show (b.say false).frames = [] from b3]
    rfl
  · rw [if_neg hq]
    obtain ⟨n, m, h1, h2⟩ := dot_none (text.size - s) s true (({} : Seen).add 14) rfl hn
    exact ⟨n, m, by omega, h2⟩
end Mine

end
section
open PySem PySem.Sre
set_option Elab.async false
set_option autoImplicit false
set_option linter.unusedVariables false
set_option maxRecDepth 100000
namespace Mine
noncomputable def fnC : Array Nat := #[14, 14, 4, 1, 1, 9, 0, 64, 0, 1342177280, 0, 0, 0, 0, 0, 17, 0, 13, 11, 9, 0, 64, 0, 1342177280, 0, 0, 0, 0, 0, 17, 1, 1]
noncomputable def fB (text : Array Nat) (s last : Nat) : M := { code := fnC, text, lim := text.size, start := s, lastStart := last, pc := 15, pos := s, handed := s, marks := Array.replicate 2 none, seen := ({} : Seen).add 14 }
theorem fn_forSearch (text : Array Nat) (s : Nat) : forSearch fnC text 1 s text.size false = if s > text.size || text.size - s < 1 then (fB text s 0).say false else (fB text s text.size).attemptFrom s true := rfl
noncomputable def tame (c : Nat) : Prop := c = 33 ∨ c = 13 ∨ c = 10 ∨ c = 46 ∨ c = 97
theorem inSet_fn {c : Nat} (h : tame c) (seen : Seen) : ∃ seen', inSet fnC c fnC.size 5 true seen = .ok (false, seen') := by
  rcases h with rfl | rfl | rfl | rfl | rfl <;> exact ⟨_, rfl⟩
theorem fn_none {text : Array Nat} {last s0 : Nat} : ∀ (fuel s : Nat) (seen : Seen), (∀ k, s ≤ k → k < text.size → tame (text.getD k 0)) →
    ∃ seen', (fB text s0 last).admitted fuel s seen = .ok (none, seen')
  | 0, s, seen, _ => ⟨_, rfl⟩
  | fuel + 1, s, seen, hn => by
    have hd : (fB text s0 last).admitted (fuel + 1) s seen = if s ≥ text.size then .ok (none, seen) else match inSet fnC (text.getD s 0) fnC.size 5 true seen with
      | .ok (true, seen) => .ok (some s, seen)
      | .ok (false, seen) => (fB text s0 last).admitted fuel (s + 1) seen
      | .error why => .error why := rfl
    rw [hd]
    by_cases hq : s ≥ text.size
    · rw [if_pos hq]; exact ⟨_, rfl⟩
    · obtain ⟨sn, e⟩ := inSet_fn (hn s (Nat.le_refl _) (by omega)) seen
      rw [if_neg hq, e]
      exact fn_none fuel (s + 1) sn (fun k h1 h2 => hn k (by omega) h2)
theorem fn_search_none {text : Array Nat} {s : Nat} (hn : ∀ k, s ≤ k → k < text.size → tame (text.getD k 0)) :
    ∃ m, M.runFor 1 (forSearch fnC text 1 s text.size false) = m ∧ m.outcome = some .failed := by
  rw [fn_forSearch]
  by_cases hq : (s > text.size || text.size - s < 1) = true
  · rw [if_pos hq]; exact ⟨_, rfl, rfl⟩
  · rw [if_neg hq]
    obtain ⟨sn, e⟩ := fn_none (last := text.size) (s0 := s) (text.size + 1 - s) s (({} : Seen).add 14) hn
    have hd : (fB text s text.size).attemptFrom s true = match (fB text s text.size).admitted (text.size + 1 - s) s (({} : Seen).add 14) with
      | .ok (some s', seen) => { fB text s text.size with mustAdvance := false, seen }.attemptAt s' true
      | .ok (none, seen) => { fB text s text.size with seen }.say false
      | .error why => (fB text s text.size).stick why := rfl
    rw [hd, e]
    exact ⟨_, rfl, rfl⟩
end Mine

end
section
open PySem PySem.Calls PySem.W PyProof.Rows
set_option Elab.async false
set_option autoImplicit false
set_option linter.unusedVariables false
set_option maxRecDepth 100000
namespace Mine
variable {c : C} {j : J}

open Builtin Builtin.Re in
theorem wp_reDrive {M : Model} {A : Around} {E : Value → Shared → Prop} {s : Shared} {m' : Sre.M} {Q : Sre.M → Shared → Prop} (ho : m'.outcome.isSome = true) (h : Q m' s) :
    ∀ (turns n : Nat) (m : Sre.M), Sre.M.runFor n m = m' → n ≤ 4 * turns → 0 < turns → wpAny M A (reDrive turns m) Q E s
  | 0, _, _, _, _, h0 => absurd h0 (Nat.lt_irrefl 0)
  | k + 1, n, m, hr, hn, _ => by
    show wpAny M A (if (Sre.M.runFor 4 m).outcome.isSome then pure (Sre.M.runFor 4 m) else do rule "sre.turn"; reDrive k (Sre.M.runFor 4 m)) Q E s
    by_cases h4 : n ≤ 4
    · have e : Sre.M.runFor 4 m = m' := by
        have : 4 = n + (4 - n) := by omega
        rw [this, runFor_add, hr, runFor_done ho]
      rw [e, if_pos ho]; exact wpAny_pure h
    · have e : Sre.M.runFor (n - 4) (Sre.M.runFor 4 m) = m' := by
        rw [← hr, ← runFor_add]; congr 1; omega
      by_cases hd : (Sre.M.runFor 4 m).outcome.isSome = true
      · rw [runFor_done hd] at e
        rw [if_pos hd, e]; exact wpAny_pure h
      · rw [if_neg hd]
        exact wpAny_bind (wpAny_rule (wp_reDrive ho h k (n - 4) _ e (by omega) (by omega)))
open Builtin Builtin.Re in
theorem wp_reRun {M : Model} {A : Around} {E : Value → Shared → Prop} {s : Shared} {m m' : Sre.M} {n : Nat} {Q : Option Sre.M → Shared → Prop} (hr : Sre.M.runFor n m = m') (hn : n ≤ 2 ^ 64)
    (h : (m'.outcome = some .matched ∧ Q (some m') s) ∨ (m'.outcome = some .failed ∧ Q none s)) : wpAny M A (reRunToEnd m) Q E s := by
  have ho : m'.outcome.isSome = true := by rcases h with h | h <;> rw [h.1] <;> rfl
  unfold reRunToEnd
  refine wpAny_bind (wp_reDrive ho ?_ _ n m hr (by omega) (by decide))
  refine wpAny_bind (wpAny_forIn_list _ (fun _ _ s' => s' = s) _ (fun x rest b s' hs => ?_) (fun b s' hs => ?_) _ _ rfl)
  · subst hs
    split
    · exact wpAny_bind (wpAny_rule (wpAny_pure rfl))
    · exact wpAny_pure rfl
  · subst hs
    rcases h with h | h
    · rw [h.1]; exact wpAny_pure h.2
    · rw [h.1]; exact wpAny_pure h.2

/-- a compiled pattern on the heap -/
structure PatOk (h : Heap) (p : Addr) (code : Array Nat) (g : Nat) : Prop where
  ex : ∃ (ps : Value) (fl : Value) (ct : Addr) (e : Nat), h.get? p = some { cls := .type "re.Pattern", data := .fields #[ps, fl, .int g 0, .none, .none, .ref ct, .int 0 0] } ∧
    h.get? ct = some { cls := .type "tuple", data := .seq (code.map fun (n : Nat) => Value.int (n : Int) 0) e }
theorem PatOk.keeps {h h' : Heap} {p : Addr} {code : Array Nat} {g : Nat} (x : PatOk h p code g) (k2 : ∀ a o, h.get? a = some o → o.cls ≠ .type "list" → h'.get? a = some o) : PatOk h' p code g := by
  obtain ⟨ps, fl, ct, e, h1, h2⟩ := x.ex
  exact ⟨ps, fl, ct, e, k2 _ _ h1 (by simp), k2 _ _ h2 (by simp)⟩
theorem raw_code (code : Array Nat) : ((code.map fun (n : Nat) => Value.int (n : Int) 0).map Builtin.Re.reRawOf).map (·.toNat) = code := by
  apply Array.ext'
  simp only [Array.toList_map, List.map_map]
  conv => rhs; rw [← List.map_id code.toList]
  apply List.map_congr_left
  intro x _
  simp [Builtin.Re.reRawOf]
open Builtin Builtin.Re in
theorem wp_target {M : Model} {A : Around} {E : Value → Shared → Prop} {s : Shared} {p : Addr} {code : Array Nat} {g : Nat} {x : Str} {t : Tok} {Q : ReTarget → Shared → Prop} (hp : PatOk s.heap p code g)
    (h : Q { pattern := .ref p, string := .str x t, code := code, text := x.cps, kind := 0, groups := g, pos := 0, lim := x.cps.size } s) : wpAny M A (reWholeTarget (.ref p) (.str x t)) Q E s := by
  obtain ⟨ps, fl, ct, e, h1, h2⟩ := hp.ex
  unfold reWholeTarget
  refine wpAny_bind (wpAny_fieldsOf h1 rfl ?_)
  refine wpAny_bind (m := reTextOf (.str x t)) (wpAny_of_eq (a := (x.cps, 0)) rfl ?_)
  show wpAny M A (do
    reNoCollectionInside (.str x t) 0
    pure ({ pattern := .ref p, string := .str x t, code := (← reRawItems (.ref ct)).map (·.toNat), text := x.cps, kind := 0, groups := reRawNat (.int g 0), pos := 0, lim := x.cps.size } : ReTarget)) Q E s
  refine wpAny_bind (wpAny_pure ?_)
  refine wpAny_bind (m := reRawItems (.ref ct)) ?_
  unfold reRawItems
  refine wpAny_bind (wpAny_seqItems h2 rfl (wpAny_pure (wpAny_pure ?_)))
  have e1 : (Option.getD (some (code.map fun (n : Nat) => Value.int (n : Int) 0)) #[]).map reRawOf = (code.map fun (n : Nat) => Value.int (n : Int) 0).map reRawOf := rfl
  rw [e1, raw_code]
  exact h

/-- where the searches end -/
noncomputable def FndOk (code : Array Nat) (g : Nat) (text : Array Nat) (find : Nat → Option (Nat × Nat)) : Prop :=
  ∀ k, k ≤ text.size → ∃ n m, n ≤ 2 ^ 64 ∧ Sre.M.runFor n (Sre.forSearch code text g k text.size false) = m ∧
    (match find k with
     | some (i, e) => m.outcome = some .matched ∧ m.start = i ∧ m.handed = e ∧ k ≤ i ∧ i < e ∧ e ≤ text.size
     | none => m.outcome = some .failed)
/-- the pieces that sub puts together from place k on -/
inductive Subs (find : Nat → Option (Nat × Nat)) (text repl : List Nat) : Nat → List (List Nat) → Prop
  | stop {k : Nat} : find k = none → Subs find text repl k (if k < text.length then [text.drop k] else [])
  | more {k i e : Nat} {ps : List (List Nat)} : find k = some (i, e) → Subs find text repl e ps → Subs find text repl k ((if k < i then [(text.drop k).take (i - k)] else []) ++ repl :: ps)

theorem Heap.ExtBut.get {D : Addr} {h h' : Heap} (x : Heap.ExtBut D h h') {a : Addr} {o : Obj} (ho : h.get? a = some o) (hne : a ≠ D) : h'.get? a = some o := x a o hne ho
theorem extract_eq (l : List Nat) (k i : Nat) : (⟨l.toArray.extract k i⟩ : Str) = mkStr' ((l.drop k).take (i - k)) := by
  have h : l.toArray.extract k i = ((l.drop k).take (i - k)).toArray := by
    rw [List.extract_toArray, List.extract_eq_take_drop]
  unfold mkStr'; rw [h]
open Builtin Builtin.Re in
theorem wp_reSlice {M : Model} {A : Around} {E : Value → Shared → Prop} {s : Shared} {l : List Nat} {k i : Nat} {Q : Value → Shared → Prop} (hl : l.length ≤ sizeLine) (h : Q (.str (mkStr' ((l.drop k).take (i - k))) s.toks) { s with toks := s.toks + 1 }) :
    wpAny M A (reSlice (mkStr' l).cps 0 k i) Q E s := by
  show wpAny M A (mkStr ⟨l.toArray.extract k i⟩) Q E s
  rw [extract_eq]
  refine wpAny_mkStr h ?_
  show ((l.drop k).take (i - k)).toArray.size ≤ sizeLine
  rw [List.size_toArray, List.length_take, List.length_drop]; omega
noncomputable def pushL (D : Addr) (h : Heap) (acc : List (Str × Tok)) : Prop := ∃ e, h.get? D = some (listO (strValues acc).toArray e)
theorem wp_pushL {M : Model} {A : Around} {E : Value → Shared → Prop} {s : Shared} {D : Addr} {acc : List (Str × Tok)} {x : Str} {t : Tok} {Q : Unit → Shared → Prop} (hD : pushL D s.heap acc) (hsz : acc.length ≤ sizeLine)
    (h : ∀ h', Heap.SameBut D s.heap h' → pushL D h' (acc ++ [(x, t)]) → Q () { s with heap := h' }) : wpAny M A (updateSeq D (·.push (.str x t))) Q E s := by
  obtain ⟨e, he⟩ := hD
  have hlen : (strValues acc).toArray.size ≤ sizeLine := by rw [List.size_toArray]; unfold strValues; rw [List.length_map]; exact hsz
  refine wpAny_updateSeq he rfl (h _ (Heap.SameBut.update ..) ?_) hlen (by rw [Array.size_push]; omega)
  refine ⟨e + 1, (Heap.get?_update_self _ he rfl).trans ?_⟩
  simp [Obj.mapSeq, strValues]
theorem pushL.of_same {D : Addr} {h : Heap} {acc : List (Str × Tok)} (x : pushL D h acc) : h.IsList D (strValues acc).toArray := by
  obtain ⟨e, he⟩ := x; exact ⟨_, he, rfl, e, rfl⟩
theorem joinV_nil_nil : joinV [] [] = [] := by unfold joinV; rfl
theorem join_ok_acc {acc : List (Str × Tok)} (h1 : acc.length ≤ 1000000) (h : (acc.map (·.1.length)).sum ≤ sizeLine) : JoinOk (mkStr' []) (acc.map (·.1)) = true := by
  refine joinOk_of ?_
  have e3 : (mkStr' []).length = 0 := rfl
  rw [List.map_map, e3, Nat.mul_zero, Nat.add_zero]
  rw [sizeLine_eq] at h
  exact h
theorem map_txt (l : List (Str × Tok)) : (l.map (fun q => txt q.1)).map mkStr' = l.map (·.1) := by
  rw [List.map_map]; exact List.map_congr_left fun x _ => mkStr'_txt x.1
open Builtin Builtin.Re in
theorem sub_tail {D : Addr} {text : List Nat} {prog : Program} {w : World} {A : Around} {R : Result → Shared → Prop} {acc : List (Str × Tok)} {s : Shared} {n : Nat} (hsz : text.length ≤ sizeLine) (hD : pushL D s.heap acc)
    (hlen : acc.length ≤ 1000000) (hsum : (acc.map (·.1.length)).sum ≤ sizeLine)
    (h : ∀ tk t', s.toks ≤ tk → R (.ok (.ret (.str (mkStr' (joinV [] (acc.map (fun q => txt q.1)))) t'))) { s with toks := tk }) :
    wpAny (model prog w) A.in1 (do
      let joiner ← reSlice (mkStr' text).cps 0 0 0
      let x ← seqItems? (Value.ref D)
      if (x.getD #[]).isEmpty = true then do
          let text ← pure joiner
          ret text
        else do
          let text ← call (Value.builtin "str.join") [joiner, Value.ref D]
          ret text)
        (fun fin s' => match fin with | .done f => R (.ok f) s' | .again c' => c'.quiet = true ∧ codeAny (model prog w) A c' R s') (fun e s' => R (.error e) s') s := by
  refine wpAny_bind (wp_reSlice hsz ?_)
  have e0 : (List.take (0 - 0) (List.drop 0 text)) = [] := rfl
  rw [e0]
  have hls := hD.of_same
  obtain ⟨e, he⟩ := hD
  refine wpAny_bind (wpAny_seqItems he rfl ?_)
  dsimp only [Option.getD]
  cases acc with
  | nil =>
    rw [if_pos (by rfl)]
    refine wpAny_bind (wpAny_pure (wpAny_pure ?_))
    have := h (s.toks + 1) s.toks (by omega)
    rw [List.map_nil, joinV_nil_nil] at this
    exact this
  | cons a acc =>
    rw [if_neg (by simp [strValues])]
    refine wpAny_bind (wpAny_with_toks (Nat.le_refl (s.toks + 1)) (SC.join (x := mkStr' []) (texts := (a :: acc).map (·.1)) hls rfl (join_ok_acc hlen hsum) fun t' k htk => ?_))
    refine wpAny_pure ?_
    have := h k t' (by have : s.toks + 1 ≤ k := htk; omega)
    unfold joinV at this
    rw [map_txt, mkStr'_txt] at this
    exact this

open Builtin Builtin.Re in
theorem sub_loop {code : Array Nat} {g : Nat} {p D : Addr} {text repl : List Nat} {t u : Tok} {find : Nat → Option (Nat × Nat)} (hf : FndOk code g text.toArray find) (hne : p ≠ D) (hsz : text.length ≤ sizeLine) (hrz : repl.length ≤ sizeLine) {prog : Program} {w : World} {A : Around} {R : Result → Shared → Prop} :
    ∀ (k : Nat) (ps : List (List Nat)), Subs find text repl k ps → k ≤ text.length → ∀ (n : Nat) (acc : List (Str × Tok)) (s : Shared), PatOk s.heap p code g → pushL D s.heap acc →
      acc.length + ps.length ≤ 1000000 → (acc.map (·.1.length)).sum + (ps.map List.length).sum ≤ sizeLine →
      (∀ h' tk t', s.toks ≤ tk → Heap.SameBut D s.heap h' → R (.ok (.ret (.str (mkStr' (joinV [] (acc.map (fun q => txt q.1) ++ ps))) t'))) { s with heap := h', toks := tk }) →
      wpAny (model prog w) A.in1 (Builtin.«re.Pattern.sub.loop» ⟨[.ref p, .str (mkStr' text) t, .str (mkStr' repl) u, rawInt 0, rawInt 0, rawInt (n : Int), rawInt (k : Int), rawInt (k : Int), .bool false, .ref D, .bool false], []⟩)
        (fun fin s' => match fin with | .done f => R (.ok f) s' | .again c' => c'.quiet = true ∧ codeAny (model prog w) A c' R s') (fun e s' => R (.error e) s') s := by
  intro k ps hs
  have slen : sizeLine = 16777216 := sizeLine_eq
  have size_eq : (mkStr' text).cps.size = text.length := List.size_toArray ..
  induction hs with
  | stop hnone =>
    rename_i k
    intro hk n acc s hp hD hlen hsum h
    obtain ⟨n1, m, hn1, hrun, hm⟩ := hf k (by simpa using hk)
    rw [hnone] at hm
    unfold Builtin.«re.Pattern.sub.loop»
    refine wpAny_bind (wp_target hp ?_)
    refine wpAny_bind (m := reLiteralCannotBeTurned _) (wpAny_of_eq (a := ()) rfl ?_)
    refine wpAny_bind (m := reNextFound _ _ _) (wp_reRun hrun hn1 (.inr ⟨hm, ?_⟩))
    dsimp only
    rw [size_eq]
    by_cases hlt : k < text.length
    · rw [if_pos (show (k : Int).toNat < text.length from by simpa using hlt)]
      rw [if_pos hlt] at hlen hsum h
      rw [List.length_singleton] at hlen
      simp only [List.map_cons, List.map_nil, List.sum_cons, List.sum_nil, Nat.add_zero] at hsum
      refine wpAny_bind (wp_reSlice hsz ?_)
      have e1 : List.take (text.length - (k : Int).toNat) (List.drop (k : Int).toNat text) = text.drop k := by
        rw [Int.toNat_natCast]; exact List.take_of_length_le (by simp)
      rw [e1]
      refine wpAny_bind (wp_pushL (acc := acc) hD (by omega) fun h' sb hD' => ?_)
      refine sub_tail (acc := acc ++ [(mkStr' (text.drop k), s.toks)]) (n := n) hsz hD' (by simpa using hlen) ?_ fun tk t' htk => ?_
      · have : (mkStr' (text.drop k)).length = (text.drop k).length := List.size_toArray ..
        simp only [List.map_append, List.map_cons, List.map_nil, List.sum_append, List.sum_cons, List.sum_nil, Nat.add_zero, this]; exact hsum
      · have e2 : (acc ++ [(mkStr' (text.drop k), s.toks)]).map (fun q => txt q.1) = acc.map (fun q => txt q.1) ++ [text.drop k] := by
          simp [txt_mk]
        rw [e2]
        exact h _ _ _ (by have : s.toks + 1 ≤ tk := htk; omega) sb
    · rw [if_neg (show ¬ (k : Int).toNat < text.length from by simpa using hlt)]
      rw [if_neg hlt] at hlen hsum h
      refine sub_tail (acc := acc) (n := n) hsz hD (by simpa using hlen) (by simpa using hsum) fun tk t' htk => ?_
      have := h s.heap tk t' htk (Heap.SameBut.refl ..)
      rw [List.append_nil] at this
      exact this
  | more hsome hrest ih =>
    rename_i k i e ps
    intro hk n acc s hp hD hlen hsum h
    obtain ⟨n1, m, hn1, hrun, hm⟩ := hf k (by simpa using hk)
    rw [hsome] at hm
    obtain ⟨hm1, hm2, hm3, hki, hie, hes⟩ := hm
    rw [List.size_toArray] at hes
    unfold Builtin.«re.Pattern.sub.loop»
    refine wpAny_bind (wp_target hp ?_)
    refine wpAny_bind (m := reLiteralCannotBeTurned _) (wpAny_of_eq (a := ()) rfl ?_)
    refine wpAny_bind (m := reNextFound _ _ _) (wp_reRun hrun hn1 (.inl ⟨hm1, ?_⟩))
    dsimp only
    rw [hm2, hm3]
    have rlen : (mkStr' repl).length = repl.length := List.size_toArray ..
    have step : ∀ (acc' : List (Str × Tok)) (s' : Shared), PatOk s'.heap p code g → pushL D s'.heap acc' → acc'.length + (1 + ps.length) ≤ 1000000 → (acc'.map (·.1.length)).sum + (repl.length + (ps.map List.length).sum) ≤ sizeLine →
        (∀ h' tk t', s'.toks ≤ tk → Heap.SameBut D s'.heap h' → R (.ok (.ret (.str (mkStr' (joinV [] (acc'.map (fun q => txt q.1) ++ repl :: ps))) t'))) { s' with heap := h', toks := tk }) →
        wpAny (model prog w) A.in1 (do
            let item ← pure (Value.str (mkStr' repl) u)
            if (item != Value.none) = true then do
              let r ← updateSeq D fun x => x.push item
              again (Code.builtin "re.Pattern.sub.loop" { pos := [Value.ref p, Value.str (mkStr' text) t, Value.str (mkStr' repl) u, rawInt 0, rawInt 0, rawInt (↑n + 1), rawInt ↑e, rawInt ↑e, Value.bool (e == i), Value.ref D, Value.bool false] })
            else again (Code.builtin "re.Pattern.sub.loop" { pos := [Value.ref p, Value.str (mkStr' text) t, Value.str (mkStr' repl) u, rawInt 0, rawInt 0, rawInt (↑n + 1), rawInt ↑e, rawInt ↑e, Value.bool (e == i), Value.ref D, Value.bool false] }))
          (fun fin s' => match fin with | .done f => R (.ok f) s' | .again c' => c'.quiet = true ∧ codeAny (model prog w) A c' R s') (fun e s' => R (.error e) s') s' := by
      intro acc' s' hp' hD' hlen' hsum' h'
      refine wpAny_bind (wpAny_pure ?_)
      rw [if_pos (by rfl)]
      refine wpAny_bind (wp_pushL (acc := acc') hD' (by omega) fun h2 sb hD2 => ?_)
      refine wpAny_pure ⟨plainId_quiet plain_subloop _, codeAny_builtin entry_subloop ?_⟩
      rw [Around.under_plainId plain_subloop]
      have e4 : (e == i) = false := by simp; omega
      rw [e4]
      have e5 : ((n : Int) + 1) = ((n + 1 : Nat) : Int) := by push_cast; rfl
      rw [e5]
      have key := ih hes (n + 1) (acc' ++ [(mkStr' repl, u)]) { s' with heap := h2 } ?_ hD2 ?_ ?_ ?_
      · exact key
      · obtain ⟨ps', fl, ct, ee, q1, q2⟩ := hp'.ex
        refine ⟨ps', fl, ct, ee, ?_, ?_⟩
        · exact (sb.2 _ hne).trans q1
        · refine (sb.2 _ ?_).trans q2
          rintro rfl
          obtain ⟨e', he'⟩ := hD'
          rw [he'] at q2; exact absurd (congrArg Obj.cls (Option.some.inj q2)) (by simp)
      · simp only [List.length_append, List.length_singleton]; omega
      · simp only [List.map_append, List.map_cons, List.map_nil, List.sum_append, List.sum_cons, List.sum_nil, Nat.add_zero, rlen]; omega
      · intro h3 tk t' htk sb3
        have e2 : (acc' ++ [(mkStr' repl, u)]).map (fun q => txt q.1) ++ ps = acc'.map (fun q => txt q.1) ++ repl :: ps := by
          simp [txt_mk]
        rw [e2]
        exact h' _ _ _ htk (sb.trans sb3)
    by_cases hlt : k < i
    · rw [if_pos (show (k : Int).toNat < i from by simpa using hlt)]
      rw [if_pos hlt] at hlen hsum h
      simp only [List.length_append, List.length_cons, List.length_nil] at hlen
      have l1 : ((text.drop k).take (i - k)).length ≤ text.length := by rw [List.length_take, List.length_drop]; omega
      simp only [List.map_append, List.map_cons, List.map_nil, List.sum_append, List.sum_cons, List.sum_nil, Nat.add_zero] at hsum
      refine wpAny_bind (wp_reSlice hsz ?_)
      rw [Int.toNat_natCast]
      refine wpAny_bind (wp_pushL (acc := acc) hD (by omega) fun h' sb hD' => ?_)
      have tl : (mkStr' ((text.drop k).take (i - k))).length = ((text.drop k).take (i - k)).length := List.size_toArray ..
      refine step (acc ++ [(mkStr' ((text.drop k).take (i - k)), s.toks)]) _ ?_ hD' ?_ ?_ ?_
      · obtain ⟨ps', fl, ct, ee, q1, q2⟩ := hp.ex
        refine ⟨ps', fl, ct, ee, (sb.2 _ hne).trans q1, (sb.2 _ ?_).trans q2⟩
        rintro rfl
        obtain ⟨e', he'⟩ := hD
        rw [he'] at q2; exact absurd (congrArg Obj.cls (Option.some.inj q2)) (by simp)
      · simp only [List.length_append, List.length_singleton]; omega
      · simp only [List.map_append, List.map_cons, List.map_nil, List.sum_append, List.sum_cons, List.sum_nil, Nat.add_zero, tl]; omega
      · intro h3 tk t' htk sb3
        have e2 : (acc ++ [(mkStr' ((text.drop k).take (i - k)), s.toks)]).map (fun q => txt q.1) ++ repl :: ps = acc.map (fun q => txt q.1) ++ ([(text.drop k).take (i - k)] ++ repl :: ps) := by
          simp [txt_mk]
        rw [e2]
        exact h _ _ _ (by have : s.toks + 1 ≤ tk := htk; omega) (sb.trans sb3)
    · rw [if_neg (show ¬ (k : Int).toNat < i from by simpa using hlt)]
      rw [if_neg hlt] at hlen hsum h
      simp only [List.nil_append, List.length_cons, List.map_cons, List.sum_cons] at hlen hsum h
      exact step acc s hp hD (by omega) (by omega) fun h' tk t' htk sb => h _ _ _ htk sb
end Mine

end
section
open PySem PySem.Calls PySem.W PyProof.Rows
set_option Elab.async false
set_option autoImplicit false
set_option linter.unusedVariables false
set_option maxRecDepth 100000
namespace Mine
variable {c : C} {j : J}

theorem nocall_str : typeLookup (.type "str") "__call__" = pure none := by rw [typeLookup_type, builtinLookup_eq_fast]; kernel_rfl
open Builtin Builtin.Re in
theorem named_sub (a b : Value) : reNamed "re.Pattern.sub" "sub" ["repl", "string", "count"] 2 [a, b] [] = pure [some a, some b, none] := by rfl
open Builtin Builtin.Re in
theorem meets_sub {code : Array Nat} {g : Nat} {p : Addr} {text repl : List Nat} {t u : Tok} {find : Nat → Option (Nat × Nat)} {ps : List (List Nat)} (hf : FndOk code g text.toArray find) (hs : Subs find text repl 0 ps) (hsz : text.length ≤ sizeLine) (hrz : repl.length ≤ sizeLine)
    (hlit : repl.contains 92 = false) (hlen : ps.length ≤ 1000000) (hsum : (ps.map List.length).sum ≤ sizeLine) :
    Meets (Builtin.«re.Pattern.sub» ⟨[.ref p, .str (mkStr' repl) u, .str (mkStr' text) t], []⟩) (fun A R s => PatOk s.heap p code g ∧ ∀ h' tk t', s.toks ≤ tk → (∀ a o, s.heap.get? a = some o → h'.get? a = some o) →
      R (.ok (.ret (.str (mkStr' (joinV [] ps)) t'))) { s with heap := h', toks := tk }) := by
  intro prog w A R s ⟨hp, h⟩
  show wpAny _ _ (reSubstitute "re.Pattern.sub" "sub" false _) _ _ _
  unfold reSubstitute
  dsimp only
  rw [named_sub]
  refine wpAny_bind (wpAny_pure ?_)
  dsimp only
  refine wpAny_bind (wpAny_pure ?_)
  refine wpAny_bind (wpAny_specialOf (typeIs_str _ _ _) nocall_str ?_)
  rw [if_neg (by simp)]
  refine wpAny_bind (m := asStr? _) (wpAny_of_eq (a := some (mkStr' repl)) rfl ?_)
  dsimp only
  have hl : (mkStr' repl).cps.contains 92 = false := by rw [← hlit]; simp [mkStr']
  rw [hl]
  refine wpAny_bind (wpAny_pure ?_)
  rw [if_neg (by simp), if_pos (by rfl)]
  refine wpAny_bind (wpAny_pure ?_)
  refine wpAny_bind (wpAny_holding (wp_target hp ?_))
  rw [if_neg (fun q => nomatch q)]
  refine wpAny_bind (wpAny_newList ?_ (by rw [sizeLine_eq]; decide))
  refine wpAny_pure ⟨plainId_quiet plain_subloop _, codeAny_builtin entry_subloop ?_⟩
  rw [Around.under_plainId plain_subloop]
  have hne : p ≠ s.heap.objs.size := by
    rintro rfl
    obtain ⟨_, _, _, _, q1, _⟩ := hp.ex
    exact absurd (Heap.lt_size q1) (Nat.lt_irrefl _)
  refine sub_loop (D := s.heap.objs.size) hf hne hsz hrz 0 ps hs (Nat.zero_le _) 0 [] { s with heap := _ } (hp.keeps fun a o e _ => Heap.get?_push_of_some _ e) ⟨0, Heap.get?_push_size _ rfl⟩ (by simpa using hlen) (by simpa using hsum) fun h' tk t' htk sb => ?_
  refine h _ _ _ htk fun a o e => ?_
  have : a ≠ s.heap.objs.size := fun q => absurd (Heap.lt_size e) (by rw [q]; exact Nat.lt_irrefl _)
  exact (sb.2 a this).trans (Heap.get?_push_of_some _ e)

theorem PatOk.typeIs {s : Shared} {p : Addr} {code : Array Nat} {g : Nat} (x : PatOk s.heap p code g) : s.TypeIs (.ref p) "re.Pattern" := by
  obtain ⟨_, _, _, _, q1, _⟩ := x.ex
  exact ⟨_, q1, rfl⟩
theorem foldl_glue (g : Array Nat) : ∀ (ps : List Str) (a : Array Nat), (ps.foldl (fun acc p => acc ++ g ++ p.cps) a).toList = a.toList ++ (ps.map fun p => g.toList ++ p.cps.toList).flatten
  | [], a => by simp
  | p :: ps, a => by
    rw [List.foldl_cons, foldl_glue g ps]
    simp
noncomputable def joinL (sep : List Nat) : List (List Nat) → List Nat
  | [] => []
  | x :: r => x ++ (r.map (sep ++ ·)).flatten
theorem joinV_eq (sep : List Nat) (l : List (List Nat)) : joinV sep l = joinL sep l := by
  unfold joinV Txt.join Builtin.Str.glued txt
  cases l with
  | nil => rfl
  | cons x r =>
    show (List.foldl (fun acc (p : Str) => acc ++ (mkStr' sep).cps ++ p.cps) (mkStr' x).cps (r.map mkStr')).toList = _
    rw [foldl_glue]
    unfold joinL mkStr'
    simp [List.map_map, Function.comp_def]
theorem joinV_nil (l : List (List Nat)) : joinV [] l = l.flatten := by
  rw [joinV_eq]
  cases l with
  | nil => rfl
  | cons x r => simp [joinL]
theorem OpN.sub {code : Array Nat} {g : Nat} {p : Addr} {text repl : List Nat} {find : Nat → Option (Nat × Nat)} {ps : List (List Nat)} (hp : PatOk c.h₀ p code g) (hf : FndOk code g text.toArray find) (hs : Subs find text repl 0 ps)
    (hlit : repl.contains 92 = false) (hlen : ps.length ≤ 1000000) (hsum : (ps.map List.length).sum ≤ sizeLine) :
    OpN c j (fun vs => call (.builtin "re.Pattern.sub") vs) [.con p, .str repl, .str text] (.str ps.flatten) := .mk fun A env s fz vs Q E hA hR rs h => by
  obtain ⟨v, u, w, rfl, r, r', r''⟩ := rs.three
  obtain rfl : v = _ := r.inv; obtain ⟨t1, rfl, hl1⟩ := r'.inv; obtain ⟨t2, rfl, hl2⟩ := r''.inv
  have hp' : PatOk s.heap p code g := hp.keeps fun a o e _ => hR.st a o e
  refine call_meets slot_sub hp'.typeIs entry_sub (args_sub _ _ _) (meets_sub (t := t2) (u := t1) hf hs hl2 hl1 hlit hlen hsum) ⟨hp', fun h' tk t' htk k => ?_⟩
  have e : (joinV [] ps).length ≤ sizeLine := by rw [joinV_nil, List.length_flatten]; exact hsum
  rw [← joinV_nil] at h
  exact h _ _ _ (Nx.grow hR tk htk k) (.str _ _ e)
end Mine

end
section
open PySem PySem.Calls PySem.W PyProof.Rows
set_option Elab.async false
set_option autoImplicit false
set_option linter.unusedVariables false
set_option maxRecDepth 100000
namespace Mine
variable {c : C} {j : J}

noncomputable def firstAt (P : Nat → Bool) : Nat → Nat → Option Nat
  | 0, _ => none
  | f + 1, k => if P k then some k else firstAt P f (k + 1)
theorem firstAt_some {P : Nat → Bool} : ∀ {f k i : Nat}, firstAt P f k = some i → k ≤ i ∧ i < k + f ∧ P i = true ∧ ∀ l, k ≤ l → l < i → P l = false
  | 0, k, i, h => by cases h
  | f + 1, k, i, h => by
    unfold firstAt at h
    split at h
    · rename_i hp; cases h; exact ⟨Nat.le_refl _, by omega, hp, fun l a b => by omega⟩
    · rename_i hp
      obtain ⟨a, b, d, e⟩ := firstAt_some h
      refine ⟨by omega, by omega, d, fun l h1 h2 => ?_⟩
      by_cases q : l = k
      · subst q; simpa using hp
      · exact e l (by omega) h2
theorem firstAt_none {P : Nat → Bool} : ∀ {f k : Nat}, firstAt P f k = none → ∀ l, k ≤ l → l < k + f → P l = false
  | 0, k, h, l, a, b => by omega
  | f + 1, k, h, l, a, b => by
    unfold firstAt at h
    split at h
    · cases h
    · rename_i hp
      by_cases q : l = k
      · subst q; simpa using hp
      · exact firstAt_none h l (by omega) (by omega)

theorem subs_gen {find : Nat → Option (Nat × Nat)} {text repl : List Nat} {F : Nat → List Nat} (hstop : ∀ k, k ≤ text.length → find k = none → F k = text.drop k)
    (hmore : ∀ k i e, k ≤ text.length → find k = some (i, e) → k ≤ i ∧ i < e ∧ e ≤ text.length ∧ F k = (text.drop k).take (i - k) ++ repl ++ F e) :
    ∀ (d k : Nat), text.length - k = d → k ≤ text.length → ∃ ps, Subs find text repl k ps ∧ ps.flatten = F k ∧ ps.length ≤ 2 * d + 1 := by
  intro d
  induction d using Nat.strongRecOn with
  | _ d ih =>
    intro k hd hk
    cases hf : find k with
    | none =>
      refine ⟨_, .stop hf, ?_, ?_⟩
      · rw [hstop k hk hf]
        split
        · simp
        · rw [List.drop_eq_nil_of_le (by omega)]; rfl
      · split <;> simp
    | some q =>
      obtain ⟨i, e⟩ := q
      obtain ⟨h1, h2, h3, h4⟩ := hmore k i e hk hf
      obtain ⟨ps, s1, s2, s3⟩ := ih (text.length - e) (by omega) e rfl h3
      refine ⟨_, .more hf s1, ?_, ?_⟩
      · rw [h4, ← s2]
        split
        · simp
        · rw [show i - k = 0 from by omega]; simp
      · rw [List.length_append, List.length_cons]
        split <;> simp <;> omega

theorem sum_flat (ps : List (List Nat)) : (ps.map List.length).sum = ps.flatten.length := by rw [List.length_flatten]

noncomputable def eolP (text : List Nat) (i : Nat) : Bool := isEol (text.toArray.getD i 0)
noncomputable def eolFind (text : List Nat) (k : Nat) : Option (Nat × Nat) := (firstAt (eolP text) (text.length - k) k).map fun i => (i, i + eolLen text.toArray i)
theorem eol_fnd (text : List Nat) : FndOk eolC 0 text.toArray (eolFind text) := fun k hk => by
  rw [List.size_toArray] at hk
  unfold eolFind
  cases hf : firstAt (eolP text) (text.length - k) k with
  | none =>
    obtain ⟨m, h1, h2⟩ := eol_search_none (text := text.toArray) (s := k) fun l a b => firstAt_none hf l a (by rw [List.size_toArray] at b; omega)
    exact ⟨1, m, by decide, h1, h2⟩
  | some i =>
    obtain ⟨a, b, d, e⟩ := firstAt_some hf
    obtain ⟨n, m, h0, h1, h2, h3, h4, _⟩ := eol_search (text := text.toArray) a (by rw [List.size_toArray]; omega) e d
    refine ⟨n, m, by have : 20 ≤ 2 ^ 64 := by decide
                     omega, h1, h2, h3, h4, a, ?_, ?_⟩
    · unfold eolLen; split <;> omega
    · rw [List.size_toArray]; unfold eolLen; split
      · rename_i q; rw [List.size_toArray] at q; omega
      · omega
noncomputable def dotP (text : List Nat) (i : Nat) : Bool := isDot text.toArray i
noncomputable def dotFind (text : List Nat) (k : Nat) : Option (Nat × Nat) := (firstAt (dotP text) (text.length - k) k).map fun i => (i, i + 1)
theorem dot_fnd (text : List Nat) (hl : text.length ≤ sizeLine) : FndOk dotC 0 text.toArray (dotFind text) := fun k hk => by
  rw [List.size_toArray] at hk
  have hz : 3 * text.length + 5 ≤ 2 ^ 64 := by rw [sizeLine_eq] at hl; omega
  unfold dotFind
  cases hf : firstAt (dotP text) (text.length - k) k with
  | none =>
    obtain ⟨n, m, h0, h1, h2⟩ := dot_search_none (text := text.toArray) (s := k) fun l a b => firstAt_none hf l a (by rw [List.size_toArray] at b; omega)
    rw [List.size_toArray] at h0
    exact ⟨n, m, by omega, h1, h2⟩
  | some i =>
    obtain ⟨a, b, d, e⟩ := firstAt_some hf
    obtain ⟨n, m, h0, h1, h2, h3, h4, _⟩ := dot_search (text := text.toArray) a (by rw [List.size_toArray]; omega) e d
    rw [List.size_toArray] at h0
    refine ⟨n, m, by omega, h1, h2, h3, h4, a, by omega, by rw [List.size_toArray]; omega⟩

/-- every line end written as cr lf -/
noncomputable def fixE : List Nat → List Nat
  | [] => []
  | 13 :: 10 :: r => 13 :: 10 :: fixE r
  | c :: r => if isEol c then 13 :: 10 :: fixE r else c :: fixE r
theorem fixE_cons {c : Nat} {r : List Nat} (h : isEol c = false) : fixE (c :: r) = c :: fixE r := by
  rw [fixE]
  · rw [h]; rfl
  · rintro r' rfl; exact absurd h (by decide)
theorem fixE_app {a b : List Nat} (h : ∀ x ∈ a, isEol x = false) : fixE (a ++ b) = a ++ fixE b := by
  induction a with
  | nil => rfl
  | cons x a ih =>
    rw [List.cons_append, fixE_cons (h x (List.mem_cons_self ..)), ih fun y hy => h y (List.mem_cons_of_mem _ hy)]
    rfl
theorem getD_list (text : List Nat) (i : Nat) : text.toArray.getD i 0 = text.getD i 0 := by
  simp [Array.getD_eq_getD_getElem?, List.getD_eq_getElem?_getD]
theorem drop_get {text : List Nat} {i : Nat} (h : i < text.length) : text.drop i = text.getD i 0 :: text.drop (i + 1) := by
  rw [List.drop_eq_getElem_cons h]; simp [List.getD_eq_getElem?_getD, h]
theorem mem_seg {text : List Nat} {k i : Nat} {P : Nat → Bool} (h : ∀ l, k ≤ l → l < i → P (text.getD l 0) = false) (hi : i ≤ text.length) : ∀ x ∈ (text.drop k).take (i - k), P x = false := by
  intro x hx
  obtain ⟨n, hn, rfl⟩ := List.mem_iff_getElem.mp hx
  rw [List.length_take, List.length_drop] at hn
  rw [List.getElem_take, List.getElem_drop]
  have := h (k + n) (by omega) (by omega)
  rw [List.getD_eq_getElem?_getD, List.getElem?_eq_getElem (by omega)] at this
  exact this
theorem seg_split {text : List Nat} {k i : Nat} (h : k ≤ i) : text.drop k = (text.drop k).take (i - k) ++ text.drop i := by
  conv => lhs; rw [← List.take_append_drop (i - k) (text.drop k)]
  rw [List.drop_drop]; congr 2; omega
theorem eol_subs (text : List Nat) : ∃ ps, Subs (eolFind text) text [13, 10] 0 ps ∧ ps.flatten = fixE text ∧ ps.length ≤ 2 * text.length + 1 := by
  have h := subs_gen (find := eolFind text) (text := text) (repl := [13, 10]) (F := fun k => fixE (text.drop k)) (fun k hk hf => ?_) (fun k i e hk hf => ?_) text.length 0 (by omega) (Nat.zero_le _)
  · simpa using h
  · unfold eolFind at hf
    rw [Option.map_eq_none_iff] at hf
    have := fixE_app (a := text.drop k) (b := []) ?_
    · simpa [fixE] using this
    · have h2 := mem_seg (text := text) (k := k) (i := text.length) (P := isEol) (fun l a b => by have := firstAt_none hf l a (by omega); unfold eolP at this; rw [getD_list] at this; exact this) (Nat.le_refl _)
      rw [List.take_of_length_le (by simp)] at h2
      exact h2
  · unfold eolFind at hf
    rw [Option.map_eq_some_iff] at hf
    obtain ⟨i', hf, he⟩ := hf
    cases he
    obtain ⟨a, b, d, q⟩ := firstAt_some hf
    have hi : i < text.length := by omega
    have seg := mem_seg (text := text) (k := k) (i := i) (P := isEol) (fun l a b => by have := q l a b; unfold eolP at this; rw [getD_list] at this; exact this) (by omega)
    unfold eolP at d; rw [getD_list] at d
    refine ⟨a, ?_, ?_, ?_⟩
    · unfold eolLen; split <;> omega
    · unfold eolLen; split
      · rename_i z; rw [List.size_toArray] at z; omega
      · omega
    · show fixE (text.drop k) = _
      conv => lhs; rw [seg_split a, fixE_app seg]
      rw [List.append_assoc]
      congr 1
      unfold eolLen
      rw [getD_list, getD_list, List.size_toArray]
      rw [drop_get hi]
      by_cases z : text.getD i 0 = 13 ∧ i + 1 < text.length ∧ text.getD (i + 1) 0 = 10
      · rw [if_pos z, z.1, drop_get z.2.1, z.2.2]; rfl
      · rw [if_neg z]
        rw [fixE]
        · rw [d]; rfl
        · intro r' e1 e2
          refine z ⟨e1, ?_, ?_⟩
          · have := congrArg List.length e2
            simp only [List.length_drop, List.length_cons] at this; omega
          · have hlt : i + 1 < text.length := by
              have := congrArg List.length e2
              simp only [List.length_drop, List.length_cons] at this; omega
            rw [drop_get hlt] at e2
            exact (List.cons.inj e2).1

/-- a dot at the head of a row is doubled -/
noncomputable def dotAll : Bool → List Nat → List Nat
  | _, [] => []
  | at_, c :: r => if at_ && c == 46 then 46 :: 46 :: dotAll false r else c :: dotAll (c == 10) r
theorem dotP_eq (text : List Nat) (i : Nat) (hi : i < text.length) : dotP text i = (atRow text.toArray i && text.getD i 0 == 46) := by
  unfold dotP isDot
  rw [List.size_toArray, decide_eq_true hi, Bool.true_and, getD_list]
theorem atRow_succ (text : List Nat) (i : Nat) : atRow text.toArray (i + 1) = (text.getD i 0 == 10) := by
  unfold atRow
  rw [Nat.add_sub_cancel, getD_list]; simp
theorem dot_seg {text : List Nat} : ∀ (d k i : Nat), i - k = d → k ≤ i → i ≤ text.length → (∀ l, k ≤ l → l < i → dotP text l = false) →
    dotAll (atRow text.toArray k) (text.drop k) = (text.drop k).take (i - k) ++ dotAll (atRow text.toArray i) (text.drop i)
  | 0, k, i, hd, hk, hi, h => by
    have : k = i := by omega
    subst this; simp
  | d + 1, k, i, hd, hk, hi, h => by
    have hlt : k < text.length := by omega
    have h0 := h k (Nat.le_refl _) (by omega)
    rw [dotP_eq _ _ hlt] at h0
    have ih := dot_seg (text := text) d (k + 1) i (by omega) (by omega) hi fun l a b => h l (by omega) b
    rw [drop_get hlt, dotAll, h0]
    rw [if_neg (by simp), ← atRow_succ, ih]
    rw [show i - k = (i - (k + 1)) + 1 from by omega]
    rfl
theorem dot_subs (text : List Nat) : ∃ ps, Subs (dotFind text) text [46, 46] 0 ps ∧ ps.flatten = dotAll true text ∧ ps.length ≤ 2 * text.length + 1 := by
  have h := subs_gen (find := dotFind text) (text := text) (repl := [46, 46]) (F := fun k => dotAll (atRow text.toArray k) (text.drop k)) (fun k hk hf => ?_) (fun k i e hk hf => ?_) text.length 0 (by omega) (Nat.zero_le _)
  · have e : atRow text.toArray 0 = true := rfl
    obtain ⟨ps, h1, h2, h3⟩ := h
    exact ⟨ps, h1, by rw [h2, e]; rfl, h3⟩
  · unfold dotFind at hf
    rw [Option.map_eq_none_iff] at hf
    have := dot_seg (text := text) (text.length - k) k text.length rfl hk (Nat.le_refl _) fun l a b => firstAt_none hf l a (by omega)
    show dotAll (atRow text.toArray k) (text.drop k) = text.drop k
    rw [this, List.drop_length]
    simp only [dotAll, List.append_nil]
    exact List.take_of_length_le (by simp)
  · unfold dotFind at hf
    rw [Option.map_eq_some_iff] at hf
    obtain ⟨i', hf, he⟩ := hf
    cases he
    obtain ⟨a, b, d, q⟩ := firstAt_some hf
    have hi : i < text.length := by omega
    refine ⟨a, by omega, by omega, ?_⟩
    show dotAll (atRow text.toArray k) (text.drop k) = _
    rw [dot_seg (i - k) k i rfl a (by omega) q, List.append_assoc]
    congr 1
    rw [dotP_eq _ _ hi] at d
    rw [drop_get hi, dotAll, if_pos d, atRow_succ]
    simp only [Bool.and_eq_true, beq_iff_eq] at d
    rw [d.2]; rfl
theorem fixE_length : ∀ l : List Nat, (fixE l).length ≤ 2 * l.length := by
  intro l
  induction l using fixE.induct with
  | case1 => simp [fixE]
  | case2 r ih => simp only [fixE, List.length_cons]; omega
  | case3 c r h hc ih => rw [fixE, if_pos hc]; simp only [List.length_cons]; omega
                         exact h
  | case4 c r h hc ih => rw [fixE, if_neg hc]; simp only [List.length_cons]; omega
                         exact h
theorem dotAll_length : ∀ (b : Bool) (l : List Nat), (dotAll b l).length ≤ 2 * l.length
  | _, [] => by simp [dotAll]
  | b, c :: r => by
    have h1 := dotAll_length false r
    have h2 := dotAll_length (c == 10) r
    rw [dotAll]; split <;> simp only [List.length_cons] <;> omega
theorem OpN.subE {p : Addr} {text : List Nat} (hp : PatOk c.h₀ p eolC 0) (hl : text.length ≤ 100000) : OpN c j (fun vs => call (.builtin "re.Pattern.sub") vs) [.con p, .str [13, 10], .str text] (.str (fixE text)) := by
  obtain ⟨ps, h1, h2, h3⟩ := eol_subs text
  have h4 := fixE_length text
  rw [← h2] at h4 ⊢
  exact OpN.sub hp (eol_fnd text) h1 (by decide) (by omega) (by rw [sum_flat, sizeLine_eq]; omega)
theorem OpN.subD {p : Addr} {text : List Nat} (hp : PatOk c.h₀ p dotC 0) (hl : text.length ≤ 100000) : OpN c j (fun vs => call (.builtin "re.Pattern.sub") vs) [.con p, .str [46, 46], .str text] (.str (dotAll true text)) := by
  obtain ⟨ps, h1, h2, h3⟩ := dot_subs text
  have h4 := dotAll_length true text
  rw [← h2] at h4 ⊢
  exact OpN.sub hp (dot_fnd text (by rw [sizeLine_eq]; omega)) h1 (by decide) (by omega) (by rw [sum_flat, sizeLine_eq]; omega)
end Mine

end
section
open PySem PySem.Calls PySem.W PyProof.Rows
set_option Elab.async false
set_option autoImplicit false
set_option linter.unusedVariables false
set_option maxRecDepth 100000
namespace Mine
variable {c : C} {j : J}

theorem fn_fnd {text : List Nat} (h : ∀ x ∈ text, tame x) : FndOk fnC 1 text.toArray (fun _ => none) := fun k hk => by
  obtain ⟨m, h1, h2⟩ := fn_search_none (text := text.toArray) (s := k) fun l a b => by
    rw [getD_list]
    rw [List.size_toArray] at b
    rw [List.getD_eq_getElem?_getD, List.getElem?_eq_getElem b]
    exact h _ (List.getElem_mem b)
  exact ⟨1, m, by decide, h1, h2⟩
theorem call_function : typeLookup (.type "function") "__call__" = pure (some (.builtin "function.__call__")) := by rw [typeLookup_type, builtinLookup_eq_fast]; kernel_rfl
open Builtin Builtin.Re in
theorem meets_sub1 {code : Array Nat} {g : Nat} {p f : Addr} {text : List Nat} {t : Tok} (hf : FndOk code g text.toArray (fun _ => none)) (hsz : text.length ≤ sizeLine) :
    Meets (Builtin.«re.Pattern.sub» ⟨[.ref p, .ref f, .str (mkStr' text) t], []⟩) (fun A R s => PatOk s.heap p code g ∧ s.TypeIs (.ref f) "function" ∧ ∀ h' tk t', s.toks ≤ tk → (∀ a o, s.heap.get? a = some o → h'.get? a = some o) →
      R (.ok (.ret (.str (mkStr' text) t'))) { s with heap := h', toks := tk }) := by
  intro prog w A R s ⟨hp, hT, h⟩
  have size_eq : (mkStr' text).cps.size = text.length := List.size_toArray ..
  show wpAny _ _ (reSubstitute "re.Pattern.sub" "sub" false _) _ _ _
  unfold reSubstitute
  dsimp only
  rw [named_sub]
  refine wpAny_bind (wpAny_pure ?_)
  dsimp only
  refine wpAny_bind (wpAny_pure ?_)
  refine wpAny_bind (wpAny_specialOf hT call_function ?_)
  rw [if_pos (by rfl)]
  refine wpAny_bind (wpAny_pure ?_)
  rw [if_pos (by rfl)]
  refine wpAny_bind (wpAny_pure ?_)
  refine wpAny_bind (wpAny_holding (wp_target hp ?_))
  rw [if_pos (by rfl)]
  refine wpAny_bind (m := reNotHeld _ _) (wpAny_of_eq (a := ()) (by unfold reNotHeld; rw [show isInstance (.str (mkStr' text) t) (.type "bytearray") = pure false from by show (do isSubtype (← typeOf _) _) = _; rw [show typeOf (.str (mkStr' text) t) = pure (.type "str") from rfl]; exact (by rw [show (pure (Value.type "str") >>= fun x => isSubtype x (.type "bytearray")) = isSubtype (.type "str") (.type "bytearray") from rfl, isSubtype_type]; kernel_rfl)]; rfl) ?_)
  refine wpAny_bind (wpAny_newList ?_ (by rw [sizeLine_eq]; decide))
  refine wpAny_pure ⟨plainId_quiet plain_subloop _, codeAny_builtin entry_subloop ?_⟩
  rw [Around.under_plainId plain_subloop]
  have hp2 : PatOk (s.heap.push { cls := .type "list", data := .seq #[] }) p code g := hp.keeps fun a o e _ => Heap.get?_push_of_some _ e
  have hD : pushL s.heap.objs.size (s.heap.push { cls := .type "list", data := .seq #[] }) [] := ⟨0, Heap.get?_push_size _ rfl⟩
  obtain ⟨n1, m, hn1, hrun, hm⟩ := hf 0 (Nat.zero_le _)
  have fin : ∀ h' tk t', s.toks ≤ tk → Heap.SameBut s.heap.objs.size (s.heap.push { cls := .type "list", data := .seq #[] }) h' → R (.ok (.ret (.str (mkStr' text) t'))) { s with heap := h', toks := tk } := fun h' tk t' htk sb => by
    refine h _ _ _ htk fun a o e => ?_
    have : a ≠ s.heap.objs.size := fun q => absurd (Heap.lt_size e) (by rw [q]; exact Nat.lt_irrefl _)
    exact (sb.2 a this).trans (Heap.get?_push_of_some _ e)
  unfold Builtin.«re.Pattern.sub.loop»
  refine wpAny_bind (wp_target hp2 ?_)
  refine wpAny_bind (m := reNextFound _ _ _) (wp_reRun hrun hn1 (.inr ⟨hm, ?_⟩))
  dsimp only
  rw [size_eq]
  by_cases hlt : 0 < text.length
  · rw [if_pos (show (0 : Int).toNat < text.length from hlt)]
    refine wpAny_bind (wp_reSlice hsz ?_)
    have e1 : List.take (text.length - (0 : Int).toNat) (List.drop (0 : Int).toNat text) = text := by
      show List.take text.length (List.drop 0 text) = text
      rw [List.drop_zero, List.take_length]
    rw [e1]
    refine wpAny_bind (wp_pushL (acc := []) hD (Nat.zero_le _) fun h' sb hD' => ?_)
    refine sub_tail (acc := [(mkStr' text, s.toks)]) (n := 0) hsz hD' (by simp) ?_ fun tk t' htk => ?_
    · have : (mkStr' text).length = text.length := List.size_toArray ..
      simpa [this] using hsz
    · have e2 : joinV [] ([(mkStr' text, s.toks)].map (fun q => txt q.1)) = text := by
        rw [joinV_nil]; simp [txt_mk]
      rw [e2]
      exact fin _ _ _ (by have : s.toks + 1 ≤ tk := htk; omega) sb
  · rw [if_neg (show ¬ (0 : Int).toNat < text.length from hlt)]
    refine sub_tail (acc := []) (n := 0) hsz hD (by simp) (by simp) fun tk t' htk => ?_
    have e3 : text = [] := by cases text with
      | nil => rfl
      | cons => simp at hlt
    have := fin _ tk t' htk (Heap.SameBut.refl ..)
    rw [e3] at this
    exact this
end Mine

end
section
open PySem PySem.Calls PySem.W PyProof.Rows
set_option Elab.async false
set_option autoImplicit false
set_option linter.unusedVariables false
set_option maxRecDepth 100000
namespace Mine
variable {c : C} {j : J}

theorem KeyError_sub : isSubtype (.type "KeyError") (.type "LookupError") = pure true := by rw [isSubtype_type]; kernel_rfl
open Builtin Builtin.Str in
theorem wp_tab {prog : Program} {w : World} {A : Around} {E : Value → Shared → Prop} {s : Shared} {d : Addr} {f : Int → Option Value} {k : Nat} {r : Mapped} {Q : Mapped → Shared → Prop} (hA : A.handled = none) (hd : (d == sysModules) = false) (hm : s.heap.MapOf (intKind prog w) d f)
    (hr : (f k = none ∧ r = .keep) ∨ ∃ x t, f k = some (.str x t) ∧ r = .text x)
    (h : ∀ h' tk, s.toks ≤ tk → (∀ a o, s.heap.get? a = some o → h'.get? a = some o) → Q r { s with heap := h', toks := tk }) : wpAny (model prog w) A (tableLookup (.ref d) k) Q E s := by
  unfold tableLookup
  have hk : (intKind prog w).is (k : Int) (.int (k : Int) s.toks) = true := by simp [intKind, Value.isInt]
  rcases hr with ⟨hn, rfl⟩ | ⟨x, t, hs, rfl⟩
  · refine wpAny_bind (wpAny_attempt (wpAny_bind (wpAny_mkInt ?_)))
    refine wpAny_getItem_missing_of (s := { s with toks := s.toks + 1 }) hk hd hA hm hn fun h' e ne => ?_
    dsimp only
    obtain ⟨ob, t, e1, e2, _⟩ := ne.there
    refine wpAny_bind (wpAny_isInstance (T := "KeyError") (b := true) ⟨_, e1, e2⟩ KeyError_sub ?_)
    rw [if_pos rfl]
    exact wpAny_bind (wpAny_rule (wpAny_pure (h _ _ (by show s.toks ≤ s.toks + 1 + 1; omega) ne.keeps)))
  · refine wpAny_bind (wpAny_attempt (wpAny_bind (wpAny_mkInt ?_)))
    refine wpAny_getItem_of (s := { s with toks := s.toks + 1 }) hk hm hs ?_
    dsimp only
    refine wpAny_bind (m := asInt? _) (wpAny_of_eq (a := none) rfl ?_)
    dsimp only
    refine wpAny_bind (m := asStr? _) (wpAny_of_eq (a := some x) rfl ?_)
    exact wpAny_pure (h s.heap _ (by show s.toks ≤ s.toks + 1 + 1; omega) fun _ _ e => e)
open Builtin Builtin.Str in
theorem meets_translate {d : Addr} {k : Nat} {t : Tok} {f : Int → Option Value} {out : List Nat} (hd : (d == sysModules) = false) (hout : out.length ≤ 1000)
    (hr : (f k = none ∧ out = [k]) ∨ ∃ x t, f k = some (.str x t) ∧ out = txt x ∧ out.length = 2) :
    Meets (Builtin.«str.translate» ⟨[.str (mkStr' [k]) t, .ref d], []⟩) (fun A R s => A.handled = none ∧ (∀ prog w, s.heap.MapOf (intKind prog w) d f) ∧ ∀ h' tk t', s.toks ≤ tk → (∀ a o, s.heap.get? a = some o → h'.get? a = some o) →
      R (.ok (.ret (.str (mkStr' out) t'))) { s with heap := h', toks := tk }) := by
  intro prog w A R s ⟨hA, hm, h⟩
  unfold Builtin.«str.translate»
  refine wpAny_bind (m := strOneArg _ _) (wpAny_of_eq (a := (.str (mkStr' [k]) t, mkStr' [k], .ref d)) rfl ?_)
  dsimp only
  rw [if_neg (by simp [mkStr', Str.length])]
  have hall : ((mkStr' [k]).cps.all fun x => decide (x < 128)) = decide (k < 128) := by simp [mkStr']
  rw [hall]
  have hcps : (mkStr' [k]).cps = [k].toArray := rfl
  rw [hcps, List.forIn_toArray, List.forIn_cons]
  refine wpAny_bind (wpAny_bind ?_)
  rw [if_neg (by simp [tooLong])]
  dsimp only
  have tail : ∀ (x : Str) (n : Nat) (u : Shared), txt x = out → n ≤ 1000 → s.toks ≤ u.toks → (∃ h' tk, u = { s with heap := h', toks := tk } ∧ ∀ a o, s.heap.get? a = some o → h'.get? a = some o) →
      wpAny (model prog w) A.in1 (if tooLong n = true then do unsupported "str.translate:memory"; retStr { cps := List.foldl (fun acc (p : Str) => acc ++ p.cps) #[] [x].reverse } else retStr { cps := List.foldl (fun acc (p : Str) => acc ++ p.cps) #[] [x].reverse })
        (fun fin s' => match fin with | .done f => R (.ok f) s' | .again c' => c'.quiet = true ∧ codeAny (model prog w) A c' R s') (fun e s' => R (.error e) s') u := by
    rintro x n u hx hn htk ⟨h', tk, rfl, hk⟩
    rw [if_neg (by rw [show tooLong n = decide (n > sizeLine) from rfl, sizeLine_eq]; simp; omega)]
    have e : (⟨List.foldl (fun acc (p : Str) => acc ++ p.cps) #[] [x].reverse⟩ : Str) = mkStr' out := by
      rw [← hx, mkStr'_txt]; simp
    rw [e]
    unfold retStr
    refine wpAny_bind (wpAny_mkStr ?_ (by show (out.toArray).size ≤ _; rw [List.size_toArray, sizeLine_eq]; omega))
    exact wpAny_pure (h _ _ _ (by show s.toks ≤ tk + 1; have : s.toks ≤ tk := htk; omega) hk)
  have hA1 : A.in1.handled = none := hA
  have hm' : ∀ h' : Heap, (∀ a o, s.heap.get? a = some o → h'.get? a = some o) → h'.MapOf (intKind prog w) d f := fun h' hk => by
    obtain ⟨o, es, ep, ho, r⟩ := hm prog w
    exact ⟨o, es, ep, hk _ _ ho, r⟩
  rcases hr with ⟨hn, ho⟩ | ⟨x, t', hs, ho, ho2⟩
  · by_cases hk : k < 128
    · rw [decide_eq_true hk]
      rw [if_pos rfl]
      refine wpAny_bind (wp_tab hA1 hd (hm prog w) (.inl ⟨hn, rfl⟩) fun h1 tk1 e1 k1 => ?_)
      dsimp only
      refine wpAny_bind (wpAny_pure ?_)
      dsimp only
      refine wpAny_pure ?_
      refine wpAny_pure ?_
      exact tail ⟨#[k]⟩ 1 _ (by rw [ho]; rfl) (by omega) e1 ⟨h1, tk1, rfl, k1⟩
    · rw [decide_eq_false hk]
      rw [if_neg Bool.false_ne_true, if_neg Bool.false_ne_true]
      refine wpAny_bind (wp_tab hA1 hd (hm prog w) (.inl ⟨hn, rfl⟩) fun h1 tk1 e1 k1 => ?_)
      dsimp only
      refine wpAny_pure ?_
      refine wpAny_pure ?_
      exact tail ⟨#[k]⟩ 1 _ (by rw [ho]; rfl) (by omega) e1 ⟨h1, tk1, rfl, k1⟩
  · have hxl : x.length = 2 := by rw [← ho2, ho]; unfold txt; exact (Array.length_toList ..).symm
    by_cases hk : k < 128
    · rw [decide_eq_true hk]
      rw [if_pos rfl]
      refine wpAny_bind (wp_tab hA1 hd (hm prog w) (.inr ⟨x, t', hs, rfl⟩) fun h1 tk1 e1 k1 => ?_)
      dsimp only
      rw [hxl, if_neg (by simp)]
      refine wpAny_bind (wpAny_pure ?_)
      dsimp only
      refine wpAny_bind (wpAny_rule ?_)
      rw [if_neg Bool.false_ne_true]
      refine wpAny_bind (wp_tab hA1 hd (hm' h1 k1) (.inr ⟨x, t', hs, rfl⟩) fun h2 tk2 e2 k2 => ?_)
      dsimp only
      refine wpAny_pure ?_
      refine wpAny_pure ?_
      exact tail x (0 + x.length) _ ho.symm (by omega) (Nat.le_trans e1 e2) ⟨h2, tk2, rfl, fun a o q => k2 _ _ (k1 _ _ q)⟩
    · rw [decide_eq_false hk]
      rw [if_neg Bool.false_ne_true, if_neg Bool.false_ne_true]
      refine wpAny_bind (wp_tab hA1 hd (hm prog w) (.inr ⟨x, t', hs, rfl⟩) fun h1 tk1 e1 k1 => ?_)
      dsimp only
      refine wpAny_pure ?_
      refine wpAny_pure ?_
      exact tail x (0 + x.length) _ ho.symm (by omega) e1 ⟨h1, tk1, rfl, k1⟩
/-- what the table of special characters makes of a character -/
noncomputable def specials : List Nat := [40, 41, 91, 93, 123, 125, 63, 42, 43, 45, 124, 94, 36, 92, 46, 38, 126, 35, 32, 9, 10, 13, 11, 12]
noncomputable def escC (k : Nat) : List Nat := if k ∈ specials then [92, k] else [k]
/-- the table as an object -/
noncomputable def TabOk (h : Heap) (d : Addr) : Prop := (d == sysModules) = false ∧ ∃ f, (∀ prog w, h.MapOf (intKind prog w) d f) ∧ ∀ k : Nat, (k ∉ specials → f k = none) ∧ (k ∈ specials → ∃ t, f k = some (.str ⟨#[92, k]⟩ t))
theorem OpN.translate {d : Addr} {k : Nat} (hd : TabOk c.h₀ d) : OpN c j (fun vs => call (.builtin "str.translate") vs) [.str [k], .con d] (.str (escC k)) := .mk fun A env s fz vs Q E hA hR rs h => by
  obtain ⟨v, u, rfl, r, r'⟩ := rs.two
  obtain ⟨t, rfl, hl⟩ := r.inv; obtain rfl : u = _ := r'.inv
  obtain ⟨hd0, f, hm, hf⟩ := hd
  have hr : (f k = none ∧ escC k = [k]) ∨ ∃ x t, f k = some (.str x t) ∧ escC k = txt x ∧ (escC k).length = 2 := by
    by_cases hk : k ∈ specials
    · obtain ⟨t, e⟩ := (hf k).2 hk
      refine .inr ⟨_, t, e, ?_, ?_⟩ <;> unfold escC <;> rw [if_pos hk]
      · rfl
      · rfl
    · exact .inl ⟨(hf k).1 hk, if_neg hk⟩
  have hlen : (escC k).length ≤ 2 := by unfold escC; split <;> simp
  have hm' : ∀ prog w, s.heap.MapOf (intKind prog w) d f := fun prog w => by
    obtain ⟨o, es, ep, ho, r⟩ := hm prog w
    exact ⟨o, es, ep, hR.st _ _ ho, r⟩
  refine call_meets PySem.F.slot_str_translate (typeIs_str _ _ _) PySem.F.entry_str_translate (PySem.F.args_str_translate_2 _ _) (meets_translate (t := t) hd0 (by omega) hr) ⟨hA.1, hm', fun h' tk t' htk kk => ?_⟩
  exact h _ _ _ (Nx.grow hR tk htk kk) (.str _ _ (by rw [sizeLine_eq]; omega))
end Mine

end
section
open PySem PySem.Calls PySem.W PyProof.Rows
set_option Elab.async false
set_option autoImplicit false
set_option linter.unusedVariables false
set_option maxRecDepth 100000
namespace Mine

inductive Fl where
  | next
  | brk
  | ret (x : V)
structure Sg where
  m : Loc
  mu : MU
  N : Nat
noncomputable def upd (m : Loc) (x : Str) (v : V) : Loc := fun y => if y = x then some v else m y
noncomputable def updM (mu : MU) (i : Nat) (c : Cell) : MU := fun k => if k = i then some c else mu k
noncomputable def Sg.set (σ : Sg) (x : Str) (v : V) : Sg := { σ with m := upd σ.m x v }
noncomputable def Sg.put (σ : Sg) (i : Nat) (l : List V) : Sg := { σ with mu := updM σ.mu i (.list l) }
noncomputable def Sg.new (σ : Sg) (c : Cell) : Sg := { σ with mu := updM σ.mu σ.N c, N := σ.N + 1 }
noncomputable def IX.put (ix : IX) (a : Addr) : IX := { ix with f := fun k => if k = ix.N then some a else ix.f k, N := ix.N + 1 }

structure St (c : C) (b : Bool) (s₀ : Shared) (fz₀ : FM) (ix₀ : IX) (fz : FM) (ix : IX) (env : Env) (s : Shared) (σ : Sg) : Prop where
  rd : Rd c.h₀ fz ix env s σ.m σ.mu
  nx : Nx b s₀ fz₀ s fz
  le : ix₀.le ix
  n : ix.N = σ.N
  loc0 : s₀.heap.get? env.locals = none
  locF : fz env.locals = none
  locI : ∀ i, ix i ≠ some env.locals
  cel : ∀ x a, env.cells.lookup x = some a → s₀.heap.get? a = none ∧ fz a = none ∧ a ≠ env.locals ∧ (∀ i, ix i ≠ some a) ∧ ∃ u, s.heap.IsCell a u
  celA : ∀ x y a, env.cells.lookup x = some a → env.cells.lookup y = some a → x = y
  celE : ∀ x, env.kindOf x = some .cell → ∃ a, env.cells.lookup x = some a
  ixn : ∀ i a, ix i = some a → ix₀ i = some a ∨ s₀.heap.get? a = none
  ixk : ix₀.N ≤ ix.N ∧ ∀ i, i < ix₀.N → ix i = ix₀ i
  own : ∀ i cl a, σ.mu i = some cl → ix i = some a → s₀.heap.get? a = none ∧ fz a = none
  inj : ∀ i k a, ix i = some a → ix k = some a → i = k

/-- only an own thing has changed -/
structure Touch (b : Bool) (s₀ : Shared) (fz : FM) (a : Addr) (s s' : Shared) : Prop where
  same : ∃ h' tk, s' = { s with heap := h', toks := tk }
  sb : Heap.ExtBut a s.heap s'.heap
  n0 : s₀.heap.get? a = none
  nf : fz a = none
  n81 : a ≠ 81
  tk : s.toks ≤ s'.toks

theorem Touch.nx {b : Bool} {s₀ s s' : Shared} {fz₀ fz : FM} {a : Addr} (x : Nx b s₀ fz₀ s fz) (t : Touch b s₀ fz a s s') : Nx b s₀ fz₀ s' fz where
  same := by obtain ⟨h', tk, rfl⟩ := x.same; obtain ⟨h'', tk', rfl⟩ := t.same; exact ⟨h'', tk', rfl⟩
  le := x.le
  fzh := fun d o e => t.sb d o (by rintro rfl; rw [t.nf] at e; cases e) (x.fzh d o e)
  ext := x.ext
  kp := fun d o hb e => t.sb d o (by rintro rfl; rw [t.n0] at e; cases e) (x.kp d o hb e)
  tab := let ⟨ps, q, e⟩ := x.tab; ⟨ps, q, t.sb 81 _ (Ne.symm t.n81) e⟩
  tk := Nat.le_trans x.tk t.tk
theorem Touch.rd {c : C} {b : Bool} {s₀ s s' : Shared} {fz₀ fz : FM} {ix : IX} {env : Env} {a : Addr} {m m' : Loc} {mu mu' : MU} (x : Rd c.h₀ fz ix env s m mu) (y : Nx b s₀ fz₀ s fz) (t : Touch b s₀ fz a s s')
    (hl : LocOk fz ix env s'.heap m') (hm : ∀ i cl, mu' i = some cl → ∃ ad, ix i = some ad ∧ CellOk fz ix s'.heap ad cl) (ha : ∃ o, s'.heap.get? a = some o) : Rd c.h₀ fz ix env s' m' mu' where
  ek := x.ek
  eg := x.eg
  eb := x.eb
  base := x.base
  fzh := (t.nx y).fzh
  tab := (t.nx y).tab
  t81 := x.t81
  loc := hl
  mus := hm
  t0 := x.t0
  tT := Nat.le_trans x.tT t.tk
  dom := x.dom
  ixh := fun i ad e => by
    by_cases q : ad = a
    · subst q; exact ha
    · obtain ⟨o, ho⟩ := x.ixh i ad e; exact ⟨o, t.sb ad o q ho⟩
  inj := x.inj
  ecd := x.ecd
theorem CellOk.same {fz : FM} {ix : IX} {h h' : Heap} {a d : Addr} {cl : Cell} (x : CellOk fz ix h a cl) (sb : Heap.ExtBut d h h') (hne : a ≠ d) : CellOk fz ix h' a cl := by
  cases cl with
  | list l => obtain ⟨hl, vs, n, e, r⟩ := x; exact ⟨hl, vs, n, sb a _ hne e, r⟩
  | obj => exact sb a _ hne x

section
variable {c : C} {b : Bool} {s₀ s : Shared} {fz₀ fz : FM} {ix₀ ix : IX} {env : Env} {σ : Sg}

theorem St.next (x : St c b s₀ fz₀ ix₀ fz ix env s σ) {s' : Shared} {fz' : FM} (n : Nx b s fz s' fz') : St c b s₀ fz₀ ix₀ fz' ix env s' σ where
  rd := x.rd.next n
  nx := x.nx.trans n
  le := x.le
  n := x.n
  loc0 := x.loc0
  locF := by
    cases e : fz' env.locals with
    | none => rfl
    | some o =>
      rcases n.ext _ _ e with q | q
      · rw [x.locF] at q; cases q
      · obtain ⟨⟨mv, ⟨oo, es, ep, ho, _⟩, _⟩, _⟩ := x.rd.loc; rw [ho] at q; cases q
  locI := x.locI
  cel := fun y a e => by
    obtain ⟨h1, h2, h3, h4, u, o, h5, h6⟩ := x.cel y a e
    refine ⟨h1, ?_, h3, h4, u, o, n.kp a o (.inr (cell_ne81 x.rd.tab h5 h6)) h5, h6⟩
    cases e : fz' a with
    | none => rfl
    | some o =>
      rcases n.ext _ _ e with q | q
      · rw [h2] at q; cases q
      · rw [h5] at q; cases q
  celA := x.celA
  celE := x.celE
  ixn := x.ixn
  ixk := x.ixk
  own := fun i cl a h1 h2 => by
    obtain ⟨q1, q2⟩ := x.own i cl a h1 h2
    refine ⟨q1, ?_⟩
    obtain ⟨o, ho⟩ := x.rd.ixh i a h2
    cases e : fz' a with
    | none => rfl
    | some o =>
      rcases n.ext _ _ e with q | q
      · rw [q2] at q; cases q
      · rw [ho] at q; cases q
  inj := x.inj

theorem upd_self (m : Loc) (y : Str) (v : V) : upd m y v y = some v := if_pos rfl
theorem upd_ne {m : Loc} {y z : Str} {v : V} (h : z ≠ y) : upd m y v z = m z := if_neg h

theorem St.setLocal {y : Str} {u : Value} {v : V} (x : St c b s₀ fz₀ ix₀ fz ix env s σ) (hr : R fz ix u v) (hk : env.kindOf y = some .local) {h' : Heap} {mv : Str → Option Value} (hmv : s.heap.Ns env.locals mv)
    (hn : h'.Ns env.locals (fun z => if z = y then some u else mv z)) (sb : Heap.ExtBut env.locals s.heap h') {tk : Nat} (htk : s.toks ≤ tk) : St c b s₀ fz₀ ix₀ fz ix env { s with heap := h', toks := tk } (σ.set y v) := by
  have t : Touch b s₀ fz env.locals s { s with heap := h', toks := tk } := ⟨⟨h', _, rfl⟩, sb, x.loc0, x.locF, by obtain ⟨⟨mv', hn', _⟩, _⟩ := x.rd.loc; exact ns_ne81 x.rd.tab hn', htk⟩
  refine ⟨?_, t.nx x.nx, x.le, x.n, x.loc0, x.locF, x.locI, ?_, x.celA, x.celE, x.ixn, x.ixk, x.own, x.inj⟩
  · refine t.rd x.rd x.nx ⟨⟨_, hn, fun z w hz hkz => ?_⟩, fun z w hz hkz => ?_⟩ (fun i cl e => ?_) (let ⟨o, _, _, ho, _⟩ := hn; ⟨o, ho⟩)
    · by_cases q : z = y
      · subst q
        have hz' : upd σ.m z v z = some w := hz
        rw [upd_self] at hz'; cases hz'
        exact ⟨u, if_pos rfl, hr⟩
      · have hz' : upd σ.m y v z = some w := hz
        rw [upd_ne q] at hz'
        obtain ⟨⟨mv', hn', hm'⟩, _⟩ := x.rd.loc
        obtain ⟨u', e1, r⟩ := hm' z w hz' hkz
        exact ⟨u', by rw [if_neg q, ← hn'.agree hmv z]; exact e1, r⟩
    · by_cases q : z = y
      · subst q; rw [hk] at hkz; rcases hkz with h | h <;> cases h
      · have hz' : upd σ.m y v z = some w := hz
        rw [upd_ne q] at hz'
        obtain ⟨cc, o, u', e1, e2, e3, r⟩ := x.rd.loc.cl z w hz' hkz
        obtain ⟨_, _, h3, _⟩ := x.cel z cc e1
        exact ⟨cc, o, u', e1, sb cc _ h3 e2, e3, r⟩
    · obtain ⟨ad, e1, e2⟩ := x.rd.mus i cl e
      exact ⟨ad, e1, e2.same sb (by rintro rfl; exact x.locI i e1)⟩
  · intro z a e
    obtain ⟨h1, h2, h3, h4, w, o, h5, h6⟩ := x.cel z a e
    exact ⟨h1, h2, h3, h4, w, o, sb a _ h3 h5, h6⟩

theorem St.setCell {y : Str} {u : Value} {v : V} {cc : Addr} (x : St c b s₀ fz₀ ix₀ fz ix env s σ) (hr : R fz ix u v) (hk : env.kindOf y = some .cell) (hc : env.cells.lookup y = some cc) {h' : Heap}
    (hn : h'.IsCell cc (some u)) (sb : Heap.SameBut cc s.heap h') : St c b s₀ fz₀ ix₀ fz ix env { s with heap := h' } (σ.set y v) := by
  obtain ⟨c1, c2, c3, c4, cu, co, c5, c6⟩ := x.cel y cc hc
  have t : Touch b s₀ fz cc s { s with heap := h' } := ⟨⟨h', _, rfl⟩, sb.extBut, c1, c2, cell_ne81 x.rd.tab c5 c6, Nat.le_refl _⟩
  refine ⟨?_, t.nx x.nx, x.le, x.n, x.loc0, x.locF, x.locI, ?_, x.celA, x.celE, x.ixn, x.ixk, x.own, x.inj⟩
  · refine t.rd x.rd x.nx ⟨?_, fun z w hz hkz => ?_⟩ (fun i cl e => ?_) (let ⟨o, ho, _⟩ := hn; ⟨o, ho⟩)
    · obtain ⟨⟨mv', hn', hm'⟩, _⟩ := x.rd.loc
      refine ⟨mv', hn'.sameBut sb (Ne.symm c3), fun z w hz hkz => ?_⟩
      by_cases q : z = y
      · subst q; rw [hk] at hkz; cases hkz
      · have hz' : upd σ.m y v z = some w := hz
        rw [upd_ne q] at hz'
        exact hm' z w hz' hkz
    · by_cases q : z = y
      · subst q
        have hz' : upd σ.m z v z = some w := hz
        rw [upd_self] at hz'; cases hz'
        obtain ⟨o, ho, hd⟩ := hn
        exact ⟨cc, o, u, hc, ho, hd, hr⟩
      · have hz' : upd σ.m y v z = some w := hz
        rw [upd_ne q] at hz'
        obtain ⟨d, o, u', e1, e2, e3, r⟩ := x.rd.loc.cl z w hz' hkz
        have hne : d ≠ cc := by rintro rfl; exact q (x.celA z y d e1 hc)
        exact ⟨d, o, u', e1, (sb.2 d hne).trans e2, e3, r⟩
    · obtain ⟨ad, e1, e2⟩ := x.rd.mus i cl e
      exact ⟨ad, e1, e2.same sb.extBut (by rintro rfl; exact c4 i e1)⟩
  · intro z a e
    obtain ⟨h1, h2, h3, h4, w, o, h5, h6⟩ := x.cel z a e
    refine ⟨h1, h2, h3, h4, ?_⟩
    by_cases q : a = cc
    · subst q; exact ⟨_, hn⟩
    · exact ⟨w, o, (sb.2 a q).trans h5, h6⟩

/-- an own list is given new items -/
theorem St.setOwn {i : Nat} {a : Addr} {l l' : List V} {vs : Array Value} {n : Nat} (x : St c b s₀ fz₀ ix₀ fz ix env s σ) (hi : σ.mu i = some (.list l)) (ha : ix i = some a) (hl : l'.length ≤ sizeLine) {h' : Heap}
    (ho : h'.get? a = some (listO vs n)) (hr : Rs fz ix vs.toList l') (sb : Heap.SameBut a s.heap h') : St c b s₀ fz₀ ix₀ fz ix env { s with heap := h' } (σ.put i l') := by
  obtain ⟨o1, o2⟩ := x.own i _ a hi ha
  obtain ⟨a', e1, e2⟩ := x.rd.mus i _ hi
  rw [ha] at e1; cases e1
  obtain ⟨hl0, vs0, n0, e3, _⟩ := e2
  have hL : a ≠ env.locals := by rintro rfl; exact x.locI i ha
  have t : Touch b s₀ fz a s { s with heap := h' } := ⟨⟨h', _, rfl⟩, sb.extBut, o1, o2, list_ne81 x.rd.tab e3, Nat.le_refl _⟩
  refine ⟨?_, t.nx x.nx, x.le, x.n, x.loc0, x.locF, x.locI, ?_, x.celA, x.celE, x.ixn, x.ixk, ?_, x.inj⟩
  · refine t.rd x.rd x.nx ⟨?_, fun z w hz hkz => ?_⟩ (fun k cl e => ?_) ⟨_, ho⟩
    · obtain ⟨⟨mv', hn', hm'⟩, _⟩ := x.rd.loc
      exact ⟨mv', hn'.sameBut sb (Ne.symm hL), hm'⟩
    · obtain ⟨d, o, u', q1, q2, q3, r⟩ := x.rd.loc.cl z w hz hkz
      obtain ⟨_, _, _, h4, _⟩ := x.cel z d q1
      exact ⟨d, o, u', q1, (sb.2 d (by rintro rfl; exact h4 i ha)).trans q2, q3, r⟩
    · have e' : updM σ.mu i (.list l') k = some cl := e
      unfold updM at e'
      by_cases q : k = i
      · subst q; rw [if_pos rfl] at e'; cases e'
        exact ⟨a, ha, hl, vs, n, ho, hr⟩
      · rw [if_neg q] at e'
        obtain ⟨ad, q1, q2⟩ := x.rd.mus k cl e'
        exact ⟨ad, q1, q2.same sb.extBut (by rintro rfl; exact q (x.inj k i ad q1 ha))⟩
  · intro z d e
    obtain ⟨h1, h2, h3, h4, w, o, h5, h6⟩ := x.cel z d e
    exact ⟨h1, h2, h3, h4, w, o, (sb.2 d (by rintro rfl; exact h4 i ha)).trans h5, h6⟩
  · intro k cl ad e1 e2
    have e' : updM σ.mu i (.list l') k = some cl := e1
    unfold updM at e'
    by_cases q : k = i
    · subst q; rw [ha] at e2; cases e2; exact ⟨o1, o2⟩
    · rw [if_neg q] at e'; exact x.own k cl ad e' e2

theorem IX.le_put (ix : IX) (hd : ∀ i a, ix i = some a → i < ix.N) (a : Addr) : ix.le (ix.put a) :=
  ⟨fun i d e => by
    show (if i = ix.N then some a else ix.f i) = some d
    rw [if_neg (Nat.ne_of_lt (hd i d e))]; exact e, Nat.le_refl _⟩
theorem CellOk.up {fz : FM} {ix ix' : IX} {h h' : Heap} {a : Addr} {cl : Cell} (x : CellOk fz ix h a cl) (hi : ix.le ix') (e : ∀ o, h.get? a = some o → h'.get? a = some o) : CellOk fz ix' h' a cl := by
  cases cl with
  | list l => obtain ⟨hl, vs, n, q, r⟩ := x; exact ⟨hl, vs, n, e _ q, r.mono (FM.le_refl _) hi⟩
  | obj => exact e _ x

/-- a new own thing -/
theorem St.newOwn (x : St c b s₀ fz₀ ix₀ fz ix env s σ) (o : Obj) (cl : Cell) (hf : o.isFreed = false) {tk : Nat} (htk : s.toks ≤ tk)
    (hc : CellOk fz ix (s.heap.push o) s.heap.objs.size cl) : St c b s₀ fz₀ ix₀ fz (ix.put s.heap.objs.size) env { s with heap := s.heap.push o, toks := tk } (σ.new cl) := by
  have hk : ∀ d oo, s.heap.get? d = some oo → (s.heap.push o).get? d = some oo := fun d oo e => Heap.get?_push_of_some _ e
  have n1 : Nx b s fz { s with heap := s.heap.push o, toks := tk } fz := Nx.grow x.rd tk htk hk
  have y := x.next n1
  have hnew : s.heap.get? s.heap.objs.size = none := get?_size _
  have hfz : fz s.heap.objs.size = none := by
    cases e : fz s.heap.objs.size with
    | none => rfl
    | some oo => rw [x.rd.fzh _ _ e] at hnew; cases hnew
  have h0 : s₀.heap.get? s.heap.objs.size = none := by
    cases e : s₀.heap.get? s.heap.objs.size with
    | none => rfl
    | some oo =>
      by_cases q : s.heap.objs.size = 81
      · obtain ⟨ps, _, e'⟩ := x.rd.tab; rw [q, e'] at hnew; cases hnew
      · rw [x.nx.kp _ _ (.inr q) e] at hnew; cases hnew
  have hL : s.heap.objs.size ≠ env.locals := by
    obtain ⟨⟨mv, ⟨oo, _, _, ho, _⟩, _⟩, _⟩ := x.rd.loc
    intro q; rw [q, ho] at hnew; cases hnew
  have hix : ∀ i, ix i ≠ some s.heap.objs.size := fun i e => by
    obtain ⟨oo, ho⟩ := x.rd.ixh i _ e; rw [ho] at hnew; cases hnew
  have hle : ix.le (ix.put s.heap.objs.size) := ix.le_put x.rd.dom _
  have get : ∀ i d, (ix.put s.heap.objs.size) i = some d → (i = ix.N ∧ d = s.heap.objs.size) ∨ (i ≠ ix.N ∧ ix i = some d) := fun i d e => by
    have e' : (if i = ix.N then some s.heap.objs.size else ix.f i) = some d := e
    by_cases q : i = ix.N
    · rw [if_pos q] at e'; cases e'; exact .inl ⟨q, rfl⟩
    · rw [if_neg q] at e'; exact .inr ⟨q, e'⟩
  have hinj : ∀ i k d, (ix.put s.heap.objs.size) i = some d → (ix.put s.heap.objs.size) k = some d → i = k := by
    intro i k d e1 e2
    rcases get i d e1 with ⟨q1, q2⟩ | ⟨q1, q2⟩ <;> rcases get k d e2 with ⟨q3, q4⟩ | ⟨q3, q4⟩
    · rw [q1, q3]
    · subst q2; exact absurd q4 (hix k)
    · subst q4; exact absurd q2 (hix i)
    · exact x.inj i k d q2 q4
  refine ⟨?_, y.nx, ⟨fun i d e => hle.1 _ _ (x.le.1 _ _ e), Nat.le_trans x.le.2 hle.2⟩, by show ix.N + 1 = σ.N + 1; rw [x.n], y.loc0, y.locF, ?_, ?_, y.celA, y.celE, ?_, ?_, ?_, ?_⟩
  · refine ⟨y.rd.ek, y.rd.eg, y.rd.eb, y.rd.base, y.rd.fzh, y.rd.tab, y.rd.t81, ⟨?_, ?_⟩, ?_, y.rd.t0, y.rd.tT, ?_, ?_, hinj, y.rd.ecd⟩
    · obtain ⟨mv, hn, hm⟩ := y.rd.loc.ns
      exact ⟨mv, hn, fun z w hz hkz => let ⟨u, e, r⟩ := hm z w hz hkz; ⟨u, e, r.mono (FM.le_refl _) hle⟩⟩
    · intro z w hz hkz
      obtain ⟨d, oo, u, q1, q2, q3, r⟩ := y.rd.loc.cl z w hz hkz
      exact ⟨d, oo, u, q1, q2, q3, r.mono (FM.le_refl _) hle⟩
    · intro i cl' e
      have e' : updM σ.mu σ.N cl i = some cl' := e
      unfold updM at e'
      by_cases q : i = σ.N
      · rw [if_pos q] at e'; cases e'
        refine ⟨s.heap.objs.size, ?_, hc.up hle fun _ e => e⟩
        show (if i = ix.N then some s.heap.objs.size else ix.f i) = _
        rw [x.n, if_pos q]
      · rw [if_neg q] at e'
        obtain ⟨ad, q1, q2⟩ := y.rd.mus i cl' e'
        exact ⟨ad, hle.1 _ _ q1, q2.up hle fun _ e => e⟩
    · intro i d e
      rcases get i d e with ⟨q, _⟩ | ⟨_, q⟩
      · show i < ix.N + 1; omega
      · have := x.rd.dom i d q; show i < ix.N + 1; omega
    · intro i d e
      rcases get i d e with ⟨_, q⟩ | ⟨_, q⟩
      · subst q; exact ⟨o, Heap.get?_push_size _ hf⟩
      · exact y.rd.ixh i d q
  · intro i e
    rcases get i _ e with ⟨_, q⟩ | ⟨_, q⟩
    · exact hL q.symm
    · exact x.locI i q
  · intro z d e
    obtain ⟨h1, h2, h3, h4, w⟩ := y.cel z d e
    refine ⟨h1, h2, h3, fun i q => ?_, w⟩
    rcases get i _ q with ⟨_, q⟩ | ⟨_, q⟩
    · subst q
      obtain ⟨_, _, _, _, u, oo, ho, _⟩ := x.cel z _ e
      rw [ho] at hnew; cases hnew
    · exact h4 i q
  · intro i d e
    rcases get i d e with ⟨_, q⟩ | ⟨_, q⟩
    · subst q; exact .inr h0
    · exact x.ixn i d q
  · refine ⟨Nat.le_succ_of_le x.ixk.1, fun i hi => ?_⟩
    show (if i = ix.N then some s.heap.objs.size else ix.f i) = _
    rw [if_neg (Nat.ne_of_lt (Nat.lt_of_lt_of_le hi x.ixk.1))]
    exact x.ixk.2 i hi
  · intro i cl' d e1 e2
    rcases get i d e2 with ⟨_, q⟩ | ⟨q0, q⟩
    · subst q; exact ⟨h0, hfz⟩
    · have e' : updM σ.mu σ.N cl i = some cl' := e1
      unfold updM at e'
      rw [if_neg (by rw [← x.n]; exact q0)] at e'
      exact x.own i cl' d e' q
  · exact hinj
end
end Mine

end
section
open PySem PySem.Calls PySem.W PyProof.Rows
set_option Elab.async false
set_option autoImplicit false
set_option linter.unusedVariables false
set_option maxRecDepth 100000
namespace Mine

inductive FlOk (fz : FM) (ix : IX) : Fl → Flow → Prop
  | next : FlOk fz ix .next .next
  | brk : FlOk fz ix .brk .brk
  | ret {v : Value} {x : V} : R fz ix v x → FlOk fz ix (.ret x) (.ret v)

/-- what the running function may still change -/
noncomputable def Own (env : Env) (ix : IX) (σ : Sg) (a : Addr) : Prop := a = env.locals ∨ (∃ x, env.cells.lookup x = some a) ∨ ∃ i cl, σ.mu i = some cl ∧ ix i = some a

noncomputable def cutH (h : Heap) (P : Addr → Prop) : Heap := { h with objs := h.objs.mapIdx fun a o => @ite _ (P a) (Classical.propDecidable _) { cls := .none, data := .freed } o }
theorem cutH_get {h : Heap} {P : Addr → Prop} {a : Addr} : (¬ P a → (cutH h P).get? a = h.get? a) ∧ (P a → (cutH h P).get? a = none) := by
  have e : (cutH h P).objs[a]? = (h.objs[a]?).map fun o => @ite _ (P a) (Classical.propDecidable _) { cls := .none, data := .freed } o := by
    unfold cutH; simp
  constructor
  · intro hp
    unfold Heap.get?
    rw [e]
    cases h.objs[a]? with
    | none => rfl
    | some o => simp only [Option.map_some, if_neg hp]
  · intro hp
    unfold Heap.get?
    rw [e]
    cases h.objs[a]? with
    | none => rfl
    | some o => simp only [Option.map_some, if_pos hp]
theorem cutH_some {h : Heap} {P : Addr → Prop} {a : Addr} {o : Obj} (e : (cutH h P).get? a = some o) : ¬ P a ∧ h.get? a = some o := by
  by_cases hp : P a
  · rw [cutH_get.2 hp] at e; cases e
  · exact ⟨hp, by rw [cutH_get.1 hp] at e; exact e⟩
theorem cutH_none {h : Heap} {P : Addr → Prop} {a : Addr} {o : Obj} (hp : ¬ P a) (e : h.get? a = some o) : (cutH h P).get? a = some o := by rw [cutH_get.1 hp]; exact e

section
variable {c : C} {b : Bool} {s₀ s : Shared} {fz₀ fz : FM} {ix₀ ix : IX} {env : Env} {σ : Sg}

theorem St.own_none (x : St c b s₀ fz₀ ix₀ fz ix env s σ) {a : Addr} (o : Own env ix σ a) : s₀.heap.get? a = none ∧ fz a = none := by
  rcases o with rfl | ⟨y, e⟩ | ⟨i, cl, e1, e2⟩
  · exact ⟨x.loc0, x.locF⟩
  · obtain ⟨h1, h2, _⟩ := x.cel y a e; exact ⟨h1, h2⟩
  · exact x.own i cl a e1 e2
theorem St.enter (x : St c b s₀ fz₀ ix₀ fz ix env s σ) : St c b { s with heap := cutH s.heap (Own env ix σ) } fz ix fz ix env s σ where
  rd := x.rd
  nx := {
    same := ⟨s.heap, s.toks, rfl⟩
    le := FM.le_refl _
    fzh := x.rd.fzh
    ext := fun _ _ e => .inl e
    kp := fun a o _ e => (cutH_some e).2
    tab := x.rd.tab
    tk := Nat.le_refl _ }
  le := IX.le_refl _
  n := x.n
  loc0 := cutH_get.2 (.inl rfl)
  locF := x.locF
  locI := x.locI
  cel := fun y a e => let ⟨_, h2, h3, h4, h5⟩ := x.cel y a e; ⟨cutH_get.2 (.inr (.inl ⟨y, e⟩)), h2, h3, h4, h5⟩
  celA := x.celA
  celE := x.celE
  ixn := fun i a e => .inl e
  ixk := ⟨Nat.le_refl _, fun _ _ => rfl⟩
  own := fun i cl a e1 e2 => ⟨cutH_get.2 (.inr (.inr ⟨i, cl, e1, e2⟩)), (x.own i cl a e1 e2).2⟩
  inj := x.inj

/-- what stays across a step -/
noncomputable def Stays (env : Env) (s s' : Shared) (fz fz' : FM) (ix ix' : IX) (σ σ' : Sg) : Prop :=
  ∀ a o, ¬ Own env ix σ a → a ≠ 81 → s.heap.get? a = some o → s'.heap.get? a = some o ∧ ¬ Own env ix' σ' a ∧ (fz a = none → fz' a = none) ∧ ((∀ i, ix i ≠ some a) → ∀ i, ix' i ≠ some a)

theorem St.leave (x : St c b s₀ fz₀ ix₀ fz ix env s σ) {s' : Shared} {fz' : FM} {ix' : IX} {σ' : Sg} (y : St c b { s with heap := cutH s.heap (Own env ix σ) } fz ix fz' ix' env s' σ') :
    St c b s₀ fz₀ ix₀ fz' ix' env s' σ' ∧ Stays env s s' fz fz' ix ix' σ σ' := by
  have z0 : ∀ a, (cutH s.heap (Own env ix σ)).get? a = none → s₀.heap.get? a = none := fun a e => by
    by_cases ho : Own env ix σ a
    · exact (x.own_none ho).1
    · rw [cutH_get.1 ho] at e
      cases e' : s₀.heap.get? a with
      | none => rfl
      | some o =>
        by_cases q : a = 81
        · subst q; obtain ⟨ps, _, e2⟩ := x.rd.tab; rw [e2] at e; cases e
        · rw [x.nx.kp a o (.inr q) e'] at e; cases e
  refine ⟨⟨y.rd, ?_, ⟨fun i a e => y.le.1 _ _ (x.le.1 _ _ e), Nat.le_trans x.le.2 y.le.2⟩, y.n, x.loc0, y.locF, y.locI, ?_, y.celA, y.celE, ?_, ?_, ?_, y.inj⟩, ?_⟩
  · refine ⟨?_, FM.le_trans x.nx.le y.nx.le, y.nx.fzh, ?_, ?_, y.nx.tab, Nat.le_trans x.nx.tk y.nx.tk⟩
    · obtain ⟨h1, t1, rfl⟩ := x.nx.same; obtain ⟨h2, t2, rfl⟩ := y.nx.same; exact ⟨h2, t2, rfl⟩
    · intro a o e
      rcases y.nx.ext a o e with q | q
      · exact x.nx.ext a o q
      · exact .inr (z0 a q)
    · intro a o hb e
      refine y.nx.kp a o hb (cutH_none (fun ho => ?_) (x.nx.kp a o hb e))
      rw [(x.own_none ho).1] at e; cases e
  · intro z a e
    obtain ⟨h1, h2⟩ := y.cel z a e
    exact ⟨z0 a h1, h2⟩
  · intro i a e
    rcases y.ixn i a e with q | q
    · exact x.ixn i a q
    · exact .inr (z0 a q)
  · exact ⟨Nat.le_trans x.ixk.1 y.ixk.1, fun i hi => (y.ixk.2 i (Nat.lt_of_lt_of_le hi x.ixk.1)).trans (x.ixk.2 i hi)⟩
  · intro i cl a e1 e2
    obtain ⟨h1, h2⟩ := y.own i cl a e1 e2
    exact ⟨z0 a h1, h2⟩
  · intro a o ho h81 e
    have e1 := cutH_none ho e
    refine ⟨y.nx.kp a o (.inr h81) e1, fun q => ?_, fun q => ?_, fun q i e2 => ?_⟩
    · rw [(y.own_none q).1] at e1; cases e1
    · cases e2 : fz' a with
      | none => rfl
      | some o' =>
        rcases y.nx.ext a o' e2 with q2 | q2
        · rw [q] at q2; cases q2
        · rw [e1] at q2; cases q2
    · rcases y.ixn i a e2 with q2 | q2
      · exact q i q2
      · rw [e1] at q2; cases q2

/-- something that is nobody's has moved -/
theorem St.move (x : St c b s₀ fz₀ ix₀ fz ix env s σ) {I : Addr} (h0 : s₀.heap.get? I = none) (hf : fz I = none) (ho : ¬ Own env ix σ I) (h81 : I ≠ 81) {h' : Heap} {tk : Nat} (htk : s.toks ≤ tk)
    (hix : ∀ i, ix i ≠ some I)
    (hk : ∀ a o, a ≠ I → s.heap.get? a = some o → h'.get? a = some o) : St c b s₀ fz₀ ix₀ fz ix env { s with heap := h', toks := tk } σ := by
  have hfz : ∀ a o, fz a = some o → h'.get? a = some o := fun a o e => hk a o (by rintro rfl; rw [hf] at e; cases e) (x.rd.fzh a o e)
  have htab : T81 h' := let ⟨ps, q, e⟩ := x.rd.tab; ⟨ps, q, hk 81 _ (Ne.symm h81) e⟩
  refine ⟨⟨x.rd.ek, x.rd.eg, x.rd.eb, x.rd.base, hfz, htab, x.rd.t81, ⟨?_, ?_⟩, ?_, x.rd.t0, Nat.le_trans x.rd.tT htk, x.rd.dom, ?_, x.rd.inj, x.rd.ecd⟩, ?_, x.le, x.n, x.loc0, x.locF, x.locI, ?_, x.celA, x.celE, x.ixn, x.ixk, x.own, x.inj⟩
  · obtain ⟨mv, hn, hm⟩ := x.rd.loc.ns
    exact ⟨mv, hn.at' fun o e => hk _ o (by rintro rfl; exact ho (.inl rfl)) e, hm⟩
  · intro z w hz hkz
    obtain ⟨d, o, u, q1, q2, q3, r⟩ := x.rd.loc.cl z w hz hkz
    exact ⟨d, o, u, q1, hk d o (by rintro rfl; exact ho (.inr (.inl ⟨z, q1⟩))) q2, q3, r⟩
  · intro i cl e
    obtain ⟨ad, e1, e2⟩ := x.rd.mus i cl e
    have hne : ad ≠ I := by rintro rfl; exact hix i e1
    refine ⟨ad, e1, e2.up (IX.le_refl _) fun o e => hk ad o hne e⟩
  · intro i a e
    obtain ⟨o, q⟩ := x.rd.ixh i a e
    exact ⟨o, hk a o (by rintro rfl; exact hix i e) q⟩
  · refine ⟨?_, x.nx.le, hfz, x.nx.ext, ?_, htab, Nat.le_trans x.nx.tk htk⟩
    · obtain ⟨h1, t1, rfl⟩ := x.nx.same; exact ⟨h', tk, rfl⟩
    · intro a o hb e
      exact hk a o (by rintro rfl; rw [h0] at e; cases e) (x.nx.kp a o hb e)
  · intro z a e
    obtain ⟨h1, h2, h3, h4, u, o, h5, h6⟩ := x.cel z a e
    exact ⟨h1, h2, h3, h4, u, o, hk a o (by rintro rfl; exact ho (.inr (.inl ⟨z, e⟩))) h5, h6⟩
end

/-- a statement takes σ to σ' -/
structure ExS (c : C) (b : Bool) (n : Nat) (sc : Scope) (t : Env → Sem Flow) (σ : Sg) (f : Fl) (σ' : Sg) : Prop where
  run : ∀ (A : Around) (env : Env) (s s₀ : Shared) (fz fz₀ : FM) (ix ix₀ : IX) (Q : Flow → Shared → Prop) (E : Value → Shared → Prop), Room n A → env.scope = sc → St c b s₀ fz₀ ix₀ fz ix env s σ →
    (∀ fl s' fz' ix', St c b s₀ fz₀ ix₀ fz' ix' env s' σ' → FlOk fz' ix' f fl → Q fl s') → wpAny c.M A (t env) Q E s
noncomputable instance {c : C} {b : Bool} {n : Nat} {sc : Scope} {t : Env → Sem Flow} {σ : Sg} {f : Fl} {σ' : Sg} : CoeFun (ExS c b n sc t σ f σ') fun _ => ∀ (A : Around) (env : Env) (s s₀ : Shared) (fz fz₀ : FM) (ix ix₀ : IX) (Q : Flow → Shared → Prop) (E : Value → Shared → Prop), Room n A → env.scope = sc → St c b s₀ fz₀ ix₀ fz ix env s σ →
    (∀ fl s' fz' ix', St c b s₀ fz₀ ix₀ fz' ix' env s' σ' → FlOk fz' ix' f fl → Q fl s') → wpAny c.M A (t env) Q E s := ⟨fun h => h.run⟩
noncomputable abbrev EvJ (c : C) (b : Bool) (n : Nat) (sc : Scope) (σ : Sg) (t : Env → Sem Value) (x : V) : Prop := ∀ ix : IX, ix.N = σ.N → EvS c ⟨b, n, sc, σ.m, σ.mu, ix⟩ t x
noncomputable abbrev TvJ (c : C) (b : Bool) (n : Nat) (sc : Scope) (σ : Sg) (t : Env → Sem Bool) (x : Bool) : Prop := ∀ ix : IX, ix.N = σ.N → EvT c ⟨b, n, sc, σ.m, σ.mu, ix⟩ t x

section
variable {c : C} {b : Bool} {n : Nat} {sc : Scope} {σ σ' σ₁ : Sg} {f : Fl}

theorem EvJ.run {t : Env → Sem Value} {x : V} (h : EvJ c b n sc σ t x) {A : Around} {env : Env} {s s₀ : Shared} {fz fz₀ : FM} {ix ix₀ : IX} {Q : Value → Shared → Prop} {E : Value → Shared → Prop} (hA : Room n A) (he : env.scope = sc) (y : St c b s₀ fz₀ ix₀ fz ix env s σ)
    (hq : ∀ v s' fz', St c b s₀ fz₀ ix₀ fz' ix env s' σ → Nx b s fz s' fz' → R fz' ix v x → Q v s') : wpAny c.M A (t env) Q E s :=
  h ix y.n A env s fz Q E hA he y.rd fun v s' fz' nx r => hq v s' fz' (y.next nx) nx r
theorem TvJ.run {t : Env → Sem Bool} {x : Bool} (h : TvJ c b n sc σ t x) {A : Around} {env : Env} {s s₀ : Shared} {fz fz₀ : FM} {ix ix₀ : IX} {Q : Bool → Shared → Prop} {E : Value → Shared → Prop} (hA : Room n A) (he : env.scope = sc) (y : St c b s₀ fz₀ ix₀ fz ix env s σ)
    (hq : ∀ s' fz', St c b s₀ fz₀ ix₀ fz' ix env s' σ → Q x s') : wpAny c.M A (t env) Q E s :=
  h ix y.n A env s fz Q E hA he y.rd fun s' fz' nx => hq s' fz' (y.next nx)

theorem ExS.nil : ExS c b n sc (execs []) σ .next σ := .mk fun A env s s₀ fz fz₀ ix ix₀ Q E hA he x h => wpAny_execs_nil (h _ _ _ _ x .next)
theorem ExS.cons {st : Stmt} {rest : List Stmt} (h1 : ExS c b n sc (exec st) σ .next σ₁) (h2 : ExS c b n sc (execs rest) σ₁ f σ') : ExS c b n sc (execs (st :: rest)) σ f σ' := .mk fun A env s s₀ fz fz₀ ix ix₀ Q E hA he x h => by
  refine wpAny_execs_cons (h1 A env s s₀ fz fz₀ ix ix₀ _ _ hA he x fun fl s' fz' ix' y k => ?_)
  cases k
  exact h2 A env s' s₀ fz' fz₀ ix' ix₀ _ _ hA he y h
theorem ExS.stop {st : Stmt} {rest : List Stmt} (h1 : ExS c b n sc (exec st) σ f σ') (hf : f ≠ .next) : ExS c b n sc (execs (st :: rest)) σ f σ' := .mk fun A env s s₀ fz fz₀ ix ix₀ Q E hA he x h => by
  refine wpAny_execs_cons (h1 A env s s₀ fz fz₀ ix ix₀ _ _ hA he x fun fl s' fz' ix' y k => ?_)
  cases k with
  | next => exact absurd rfl hf
  | brk => exact h _ _ _ _ y .brk
  | ret r => exact h _ _ _ _ y (.ret r)

noncomputable def Stor (sc : Scope) (y : Str) : Prop := sc.names.lookup y = some .local ∨ sc.names.lookup y = some .cell
theorem wp_store {A : Around} {env : Env} {s s₀ : Shared} {fz fz₀ : FM} {ix ix₀ : IX} {Q : Unit → Shared → Prop} {E : Value → Shared → Prop} {y : Str} {u : Value} {v : V} (hk : Stor sc y) (he : env.scope = sc) (x : St c b s₀ fz₀ ix₀ fz ix env s σ) (r : R fz ix u v)
    (h : ∀ s', St c b s₀ fz₀ ix₀ fz ix env s' (σ.set y v) → Q () s') : wpAny c.M A (storeName env y u) Q E s := by
  have hkind : env.kindOf y = sc.names.lookup y := by unfold Env.kindOf; rw [he]
  rcases hk with hk | hk
  · obtain ⟨mv, hn, _⟩ := x.rd.loc.ns
    refine wpAny_storeName_local (by rw [hkind, hk]) hn (fun h' hn' sb => h _ (x.setLocal r (by rw [hkind, hk]) hn hn' sb.extBut (Nat.le_succ _))) ?_
    rw [x.rd.ek]; rfl
  · obtain ⟨cc, hc⟩ := x.celE y (by rw [hkind, hk])
    obtain ⟨_, _, _, _, u0, hu⟩ := x.cel y cc hc
    exact wpAny_storeName_cell x.rd.ek (by rw [hkind, hk]) hc hu fun h' hn sb => h _ (x.setCell r (by rw [hkind, hk]) hc hn sb)

theorem ExS.assign {y : Str} {p pos : Pos} {e : PySem.Expr} {x : V} (hv : EvJ c b n sc σ (eval e) x) (hk : Stor sc y) (hs : ∀ env : Env, swapsWith e (some (.Name y p)) pos.line env = pure false) : ExS c b n sc (exec (.Assign [.Name y p] e pos)) σ .next (σ.set y x) := .mk fun A env s s₀ fz fz₀ ix ix₀ Q E hA he st h => by
  refine wpAny_Assign_Name (hv.run hA he st fun v s1 fz1 st1 n1 r1 => ?_) (hs env)
  exact wp_store hk he st1 r1 fun s' st' => h _ _ _ _ st' .next
theorem wp_load {A : Around} {env : Env} {s : Shared} {fz : FM} {ix : IX} {m : Loc} {mu : MU} {y : Str} {v : V} {Q : Value → Shared → Prop} {E : Value → Shared → Prop} (hk : Stor sc y) (he : env.scope = sc) (hcd : (y == ("__classdict__" : Str)) = false) (x : Rd c.h₀ fz ix env s m mu) (hm : m y = some v)
    (h : ∀ u, R fz ix u v → Q u s) : wpAny c.M A (loadName env y) Q E s := by
  have hkind : env.kindOf y = sc.names.lookup y := by unfold Env.kindOf; rw [he]
  rcases hk with hk | hk
  · obtain ⟨mv, hn, hmv⟩ := x.loc.ns
    obtain ⟨u, e, r⟩ := hmv y v hm (by rw [hkind, hk])
    exact wpAny_loadName_local x.ek (by rw [hkind, hk]) hn e (h u r)
  · obtain ⟨a, o, u, e1, e2, e3, r⟩ := x.loc.cl y v hm (.inl (by rw [hkind, hk]))
    exact wp_loadCell x.ek (.inl (by rw [hkind, hk])) hcd e1 e2 e3 (h u r)
theorem ExS.aug {y : Str} {p pos : Pos} {op : Operator} {e : PySem.Expr} {a v x : V} (hk : Stor sc y) (hcd : (y == ("__classdict__" : Str)) = false) (hm : σ.m y = some a) (hv : EvJ c b n sc σ (eval e) v)
    (ho : ∀ ix : IX, ix.N = σ.N → Op2 c ⟨b, n, sc, σ.m, σ.mu, ix⟩ (inplaceOp op) a v x) : ExS c b n sc (exec (.AugAssign (.Name y p) op e pos)) σ .next (σ.set y x) := .mk fun A env s s₀ fz fz₀ ix ix₀ Q E hA he st h => by
  refine wpAny_AugAssign_Name (wp_load hk he hcd st.rd hm fun u r => ?_)
  refine hv.run hA he st fun v1 s1 fz1 st1 n1 r1 => ?_
  refine ho ix st.n A env s1 fz1 u v1 _ _ hA st1.rd (r.up n1.le) r1 fun w s2 fz2 n2 r2 => ?_
  exact wp_store hk he (st1.next n2) r2 fun s' st' => h _ _ _ _ st' .next
theorem ExS.ifs {test : PySem.Expr} {body orelse : List Stmt} {pos : Pos} {t : Bool} (ht : TvJ c b n sc σ (fun env => isTrue test env (eval test env)) t) (h1 : t = true → ExS c b n sc (execs body) σ f σ') (h2 : t = false → ExS c b n sc (execs orelse) σ f σ') :
    ExS c b n sc (exec (.If test body orelse pos)) σ f σ' := .mk fun A env s s₀ fz fz₀ ix ix₀ Q E hA he st h => by
  refine wpAny_If (ht.run hA he st fun s1 fz1 st1 => ?_)
  cases t with
  | true => exact h1 rfl A env s1 s₀ fz1 fz₀ ix ix₀ _ _ hA he st1 h
  | false => exact h2 rfl A env s1 s₀ fz1 fz₀ ix ix₀ _ _ hA he st1 h
theorem ExS.ret {e : PySem.Expr} {pos : Pos} {x : V} (hv : EvJ c b n sc σ (eval e) x) : ExS c b n sc (exec (.Return (some e) pos)) σ (.ret x) σ := .mk fun A env s s₀ fz fz₀ ix ix₀ Q E hA he st h =>
  wpAny_Return_some (hv.run hA he st fun v s1 fz1 st1 n1 r1 => h _ _ _ _ st1 (.ret r1))
theorem ExS.assert {e : PySem.Expr} {msg : Option PySem.Expr} {pos : Pos} (ht : TvJ c b n sc σ (fun env => isTrue e env (eval e env)) true) : ExS c b n sc (exec (.Assert e msg pos)) σ .next σ := .mk fun A env s s₀ fz fz₀ ix ix₀ Q E hA he st h =>
  wpAny_Assert_holds (ht.run hA he st fun s1 fz1 st1 => ⟨rfl, h _ _ _ _ st1 .next⟩)
theorem ExS.brk {pos : Pos} : ExS c b n sc (exec (.Break pos)) σ .brk σ := .mk fun A env s s₀ fz fz₀ ix ix₀ Q E hA he st h => wpAny_Break (h _ _ _ _ st .brk)

/-- a while loop, turn by turn -/
inductive Wh (c : C) (b : Bool) (n : Nat) (sc : Scope) (test : PySem.Expr) (body : List Stmt) : Nat → Sg → Fl → Sg → Prop
  | done {k : Nat} {σ : Sg} : TvJ c b n sc σ (fun env => isTrue test env (eval test env)) false → Wh c b n sc test body (k + 1) σ .next σ
  | turn {k : Nat} {σ σ₁ σ' : Sg} {f : Fl} : TvJ c b n sc σ (fun env => isTrue test env (eval test env)) true → ExS c b n sc (execs body) σ .next σ₁ → Wh c b n sc test body k σ₁ f σ' → Wh c b n sc test body (k + 1) σ f σ'
  | brk {k : Nat} {σ σ' : Sg} : TvJ c b n sc σ (fun env => isTrue test env (eval test env)) true → ExS c b n sc (execs body) σ .brk σ' → Wh c b n sc test body (k + 1) σ .next σ'
  | ret {k : Nat} {σ σ' : Sg} {x : V} : TvJ c b n sc σ (fun env => isTrue test env (eval test env)) true → ExS c b n sc (execs body) σ (.ret x) σ' → Wh c b n sc test body (k + 1) σ (.ret x) σ'
theorem ExS.whileR {test : PySem.Expr} {body : List Stmt} {pos : Pos} {k : Nat} (h1 : Wh c b n sc test body k σ f σ') : ExS c b n sc (exec (.While test body [] pos)) σ f σ' := .mk fun A env s s₀ fz fz₀ ix ix₀ Q E hA he st h => by
  refine wpAny_While (codeAny_whileLoop (fun i s' => ∃ σ1 fz1 ix1, St c b s₀ fz₀ ix₀ fz1 ix1 env s' σ1 ∧ Wh c b n sc test body i σ1 f σ') (fun i s' hI => ?_) k ⟨σ, fz, ix, st, h1⟩)
  obtain ⟨σ1, fz1, ix1, st1, w⟩ := hI
  cases w with
  | done ht =>
    refine ht.run hA he st1 fun s2 fz2 st2 => ?_
    rw [if_neg Bool.false_ne_true]
    exact wpAny_execs_nil (h _ _ _ _ st2 .next)
  | turn ht hb hw =>
    refine ht.run hA he st1 fun s2 fz2 st2 => ?_
    rw [if_pos rfl]
    refine hb A env s2 s₀ fz2 fz₀ ix1 ix₀ _ _ hA he st2 fun fl s3 fz3 ix3 st3 k => ?_
    cases k
    exact ⟨_, Nat.lt_succ_self _, _, _, _, st3, hw⟩
  | brk ht hb =>
    refine ht.run hA he st1 fun s2 fz2 st2 => ?_
    rw [if_pos rfl]
    refine hb A env s2 s₀ fz2 fz₀ ix1 ix₀ _ _ hA he st2 fun fl s3 fz3 ix3 st3 k => ?_
    cases k
    exact h _ _ _ _ st3 .next
  | ret ht hb =>
    refine ht.run hA he st1 fun s2 fz2 st2 => ?_
    rw [if_pos rfl]
    refine hb A env s2 s₀ fz2 fz₀ ix1 ix₀ _ _ hA he st2 fun fl s3 fz3 ix3 st3 k => ?_
    cases k with
    | ret r => exact h _ _ _ _ st3 (.ret r)

/-- a for loop over a run of values -/
inductive Fo (c : C) (b : Bool) (n : Nat) (sc : Scope) (y : Str) (body : List Stmt) : List V → Sg → Fl → Sg → Prop
  | nil {σ : Sg} : Fo c b n sc y body [] σ .next σ
  | turn {x : V} {xs : List V} {σ σ₁ σ' : Sg} {f : Fl} : ExS c b n sc (execs body) (σ.set y x) .next σ₁ → Fo c b n sc y body xs σ₁ f σ' → Fo c b n sc y body (x :: xs) σ f σ'
  | brk {x : V} {xs : List V} {σ σ' : Sg} : ExS c b n sc (execs body) (σ.set y x) .brk σ' → Fo c b n sc y body (x :: xs) σ .next σ'
  | ret {x z : V} {xs : List V} {σ σ' : Sg} : ExS c b n sc (execs body) (σ.set y x) (.ret z) σ' → Fo c b n sc y body (x :: xs) σ (.ret z) σ'

/-- an iterator that hands out l -/
structure Hand (c : C) (A : Around) (fz : FM) (ix : IX) (s : Shared) (l : List V) (I : Addr) (fp : List Addr) (n : Nat) (P : Nat → Value → Prop) (S : Nat → Heap → Prop) : Prop where
  walks : Walks c.prog c.w A I fp [I] n P S
  st : S 0 s.heap
  len : n = l.length
  val : ∀ i v x, P i v → l[i]? = some x → R fz ix v x
  fps : ∀ a ∈ fp, a = I ∨ ∃ o, fz a = some o
  ex : ∀ i h, S i h → ∃ o, h.get? I = some o

theorem forLoop {y : Str} {p : Pos} {body : List Stmt} {l : List V} {A : Around} {env : Env} {s s₀ : Shared} {fz fz₀ : FM} {ix ix₀ : IX} {I : Addr} {fp : List Addr} {N : Nat} {P : Nat → Value → Prop} {S : Nat → Heap → Prop} {R' : Result → Shared → Prop}
    (hA : Room n A) (he : env.scope = sc) (hk : Stor sc y) (st : St c b s₀ fz₀ ix₀ fz ix env s σ) (hd : Hand c A fz ix s l I fp N P S) (h0 : s₀.heap.get? I = none) (hI : fz I = none) (hO : ¬ Own env ix σ I) (h81 : I ≠ 81) (hx : ∀ i, ix i ≠ some I)
    (hfo : Fo c b n sc y body l σ f σ')
    (h : ∀ fl s' fz' ix', St c b s₀ fz₀ ix₀ fz' ix' env s' σ' → FlOk fz' ix' f fl → R' (.ok fl) s') : codeAny c.M A (.forLoop (.Name y p) (.ref I) body [] env) R' s := by
  refine codeAny_forLoop (fun k s' => ∃ i σi fzi ixi, k = l.length - i ∧ i ≤ l.length ∧ St c b s₀ fz₀ ix₀ fzi ixi env s' σi ∧ S i s'.heap ∧ Fo c b n sc y body (l.drop i) σi f σ' ∧ fz.le fzi ∧ ix.le ixi ∧ fzi I = none ∧ ¬ Own env ixi σi I ∧
    ∀ k, ixi k ≠ some I) ?_ l.length ⟨0, σ, fz, ix, by simp, Nat.zero_le _, st, hd.st, by simpa using hfo, FM.le_refl _, IX.le_refl _, hI, hO, hx⟩
  rintro k s' ⟨i, σi, fzi, ixi, rfl, hi, sti, hS, hf, hfz, hix, hIn, hOn, hXn⟩
  have step : ∀ (h' : Heap) (tk : Nat), s'.toks ≤ tk → (∀ d o, d ∉ [I] → s'.heap.get? d = some o → h'.get? d = some o) → St c b s₀ fz₀ ix₀ fzi ixi env { s' with heap := h', toks := tk } σi := fun h' tk htk hk' =>
    sti.move h0 hIn hOn h81 htk hXn fun a o hne e => hk' a o (by simpa using hne) e
  by_cases hlt : i < l.length
  · obtain ⟨x, hxl⟩ : ∃ x, l[i]? = some x := ⟨l[i], by simp [hlt]⟩
    have hdrop : l.drop i = x :: l.drop (i + 1) := by
      rw [List.drop_eq_getElem_cons hlt]
      rw [List.getElem?_eq_getElem hlt] at hxl; cases hxl; rfl
    rw [hdrop] at hf
    refine wpAny_with_toks (n := s'.toks) (Nat.le_refl _) (hd.walks.item i s' _ _ (by rw [hd.len]; exact hlt) hS fun v h' tk hP hS' hk' htk => ?_)
    have st1 := step h' tk htk hk'
    have r1 : R fzi ixi v x := (hd.val i v x hP hxl).mono hfz hix
    refine wpAny_assign_Name (wp_store hk he st1.enter r1 fun s2 st2 => ?_)
    cases hf with
    | turn hb hr =>
      refine hb A env s2 _ fzi fzi ixi ixi _ _ hA he st2 fun fl s3 fz3 ix3 st3 kk => ?_
      obtain ⟨z, w⟩ := st1.leave st3
      cases kk
      obtain ⟨oI, hoI⟩ := hd.ex _ _ hS'
      obtain ⟨w1, w2, w3, w4⟩ := w I oI hOn h81 hoI
      refine ⟨l.length - (i + 1), by omega, i + 1, _, _, _, rfl, hlt, z, ?_, hr, FM.le_trans hfz st3.nx.le, ⟨fun k d e => st3.le.1 _ _ (hix.1 _ _ e), Nat.le_trans hix.2 st3.le.2⟩, w3 hIn, w2, w4 hXn⟩
      refine hd.walks.frame _ _ _ hS' fun d hdm o e => ?_
      rcases hd.fps d hdm with rfl | ⟨o', e'⟩
      · rw [hoI] at e; cases e; exact w1
      · have q1 := st1.rd.fzh d o' (hfz _ _ e')
        have q2 := z.rd.fzh d o' (st3.nx.le _ _ (hfz _ _ e'))
        have e2 : h'.get? d = some o := e
        have q1' : h'.get? d = some o' := q1
        rw [q1'] at e2; cases e2; exact q2
    | brk hb =>
      refine hb A env s2 _ fzi fzi ixi ixi _ _ hA he st2 fun fl s3 fz3 ix3 st3 kk => ?_
      obtain ⟨z, w⟩ := st1.leave st3
      cases kk
      exact h _ _ _ _ z .next
    | ret hb =>
      refine hb A env s2 _ fzi fzi ixi ixi _ _ hA he st2 fun fl s3 fz3 ix3 st3 kk => ?_
      obtain ⟨z, w⟩ := st1.leave st3
      cases kk with
      | ret r => exact h _ _ _ _ z (.ret r)
  · have hin : i = l.length := by omega
    subst hin
    rw [List.drop_length] at hf
    cases hf
    refine wpAny_with_toks (n := s'.toks) (Nat.le_refl _) (hd.walks.done s' _ _ (by rw [hd.len]; exact hS) fun h' tk hk' htk => ?_)
    exact wpAny_execs_nil (h _ _ _ _ (step h' tk htk hk') .next)
end
end Mine

end
section
open PySem PySem.Calls PySem.W PyProof.Rows
set_option Elab.async false
set_option autoImplicit false
set_option linter.unusedVariables false
set_option maxRecDepth 100000
namespace Mine

section
variable {c : C} {b : Bool} {n : Nat} {sc : Scope} {σ σ' σ₁ : Sg} {f : Fl}

theorem St.fresh {s₀ s : Shared} {fz₀ fz : FM} {ix₀ ix : IX} {env : Env} (x : St c b s₀ fz₀ ix₀ fz ix env s σ) {a : Addr} (h : s.heap.get? a = none) :
    s₀.heap.get? a = none ∧ fz a = none ∧ ¬ Own env ix σ a ∧ a ≠ 81 ∧ ∀ i, ix i ≠ some a := by
  have h81 : a ≠ 81 := by rintro rfl; obtain ⟨ps, _, e⟩ := x.rd.tab; rw [e] at h; cases h
  refine ⟨?_, ?_, ?_, h81, fun i e => ?_⟩
  · cases e : s₀.heap.get? a with
    | none => rfl
    | some o => rw [x.nx.kp a o (.inr h81) e] at h; cases h
  · cases e : fz a with
    | none => rfl
    | some o => rw [x.rd.fzh a o e] at h; cases h
  · rintro (q | ⟨y, e⟩ | ⟨i, cl, e1, e2⟩)
    · obtain ⟨⟨mv, ⟨o, _, _, ho, _⟩, _⟩, _⟩ := x.rd.loc; rw [q, ho] at h; cases h
    · obtain ⟨_, _, _, _, u, o, h5, _⟩ := x.cel y a e; rw [h5] at h; cases h
    · obtain ⟨o, ho⟩ := x.rd.ixh i a e2; rw [ho] at h; cases h
  · obtain ⟨o, ho⟩ := x.rd.ixh i a e; rw [ho] at h; cases h

inductive Itr : V → List V → Prop
  | lst (l : List V) : Itr (.lst l) l
  | str (l : List Nat) : Itr (.str l) (l.map fun d => .str [d])
  | rng (a z k : Int) : Builtin.Range.small a z k = true → 0 ≤ Builtin.Range.rangeSize a z k → Itr (.rng a z k) ((rngInts a z k).map .int)

theorem wp_iter {x : V} {l : List V} (hi : Itr x l) {A A' : Around} {env : Env} {s : Shared} {fz : FM} {ix : IX} {m : Loc} {mu : MU} {v : Value} {Q : Value → Shared → Prop} {E : Value → Shared → Prop} (hA : A'.handled = none) (hR : Rd c.h₀ fz ix env s m mu) (r : R fz ix v x)
    (h : ∀ o fp N P S, o.isFreed = false → Hand c A' fz ix { s with heap := s.heap.push o } l s.heap.objs.size fp N P S → Q (.ref s.heap.objs.size) { s with heap := s.heap.push o }) : wpAny c.M A (pyIter v) Q E s := by
  have hnew : ∀ a o, fz a = some o → a ≠ s.heap.objs.size := fun a o e q => absurd (Heap.lt_size (hR.fzh a o e)) (by rw [q]; exact Nat.lt_irrefl _)
  cases hi with
  | lst =>
    cases r with
    | lst h0 h1 h2 h3 h4 h5 =>
      rename_i a o vs n
      have hl : s.heap.IsList a vs := ⟨_, hR.fzh _ _ h1, h2, _, h3⟩
      have hne := hnew _ _ h1
      refine wpAny_pyIter_list hl (h _ _ _ _ _ rfl ⟨Walks.list hA _ a hne vs, ⟨⟨_, Heap.get?_push_size _ rfl, rfl, rfl⟩, hl.push _⟩, by rw [← h4]; simp, fun i u y hP hy => h5 i u y (by simpa using hP) hy, ?_, fun i h hS => ?_⟩)
      · intro d hd
        simp at hd
        rcases hd with rfl | rfl
        · exact .inl rfl
        · exact .inr ⟨_, h1⟩
      · obtain ⟨⟨o', ho', _⟩, _⟩ := hS; exact ⟨o', ho'⟩
  | str l =>
    obtain ⟨t, rfl, _⟩ := str_len r
    have hval : ∀ i u y, SignAt ⟨l.toArray⟩ i u → (l.map fun d => V.str [d])[i]? = some y → R fz ix u y := fun i u y hP hy => by
      obtain ⟨d, t', e1, rfl⟩ := hP
      rw [List.getElem?_map] at hy
      have e1' : l[i]? = some d := by simpa using e1
      rw [e1'] at hy
      cases hy
      exact .str [d] t' (by rw [sizeLine_eq]; simp)
    have hlen : (⟨l.toArray⟩ : Str).cps.size = (l.map fun d => V.str [d]).length := by simp
    cases ha : (⟨l.toArray⟩ : Str).cps.all (· < 128)
    · refine wpAny_pyIter_wide ha (h _ _ _ _ _ rfl ⟨Walks.strWide hA _ _ t, ⟨_, Heap.get?_push_size _ rfl, rfl, rfl⟩, hlen, hval, fun d hd => .inl (by simpa using hd), fun i h hS => ?_⟩)
      obtain ⟨o', ho', _⟩ := hS; exact ⟨o', ho'⟩
    · refine wpAny_pyIter_ascii ha (h _ _ _ _ _ rfl ⟨Walks.strAscii hA _ _ t, ⟨_, Heap.get?_push_size _ rfl, rfl, rfl⟩, hlen, hval, fun d hd => .inl (by simpa using hd), fun i h hS => ?_⟩)
      obtain ⟨o', ho', _⟩ := hS; exact ⟨o', ho'⟩
  | rng a z k hs h0 =>
    cases r with
    | rng h1 =>
      refine wpAny_pyIter_range (hR.fzh _ _ h1) hs (h _ _ _ _ _ rfl ⟨Walks.range hA _ a k (Builtin.Range.rangeSize a z k).toNat, ?_, by simp [rngInts], fun i u y hP hy => ?_, fun d hd => .inl (by simpa using hd), fun i h hS => ⟨_, hS⟩⟩)
      · have e := Heap.get?_push_size (o := { cls := .type "range_iterator", data := .fields #[rawInt a, rawInt (Builtin.Range.rangeSize a z k), rawInt k] }) s.heap rfl
        show (s.heap.push _).get? s.heap.objs.size = _
        rw [e]
        have e2 : ((Builtin.Range.rangeSize a z k).toNat : Int) - ((0 : Nat) : Int) = Builtin.Range.rangeSize a z k := by omega
        have e3 : a + ((0 : Nat) : Int) * k = a := by simp
        rw [e2, e3]
      · obtain ⟨t', rfl⟩ := hP
        have hy' : ((rngInts a z k)[i]?).map V.int = some y := by rw [← List.getElem?_map]; exact hy
        unfold rngInts at hy'
        rw [List.getElem?_map] at hy'
        rcases Nat.lt_or_ge i (Builtin.Range.rangeSize a z k).toNat with q | q
        · rw [List.getElem?_range q] at hy'
          cases hy'
          exact .int _ _
        · rw [List.getElem?_eq_none (by simpa using q)] at hy'; cases hy'

theorem ExS.forR {y : Str} {p pos : Pos} {e : PySem.Expr} {body : List Stmt} {x : V} {l : List V} (hk : Stor sc y) (hs : ∀ (env : Env) u, foldedSetIterable e env u = pure u) (hv : EvJ c b n sc σ (eval e) x) (hi : Itr x l) (hfo : Fo c b n sc y body l σ f σ') :
    ExS c b n sc (exec (.For (.Name y p) e body [] pos)) σ f σ' := .mk fun A env s s₀ fz fz₀ ix ix₀ Q E hA he st h => by
  refine wpAny_For (hv.run hA he st fun v s1 fz1 st1 n1 r1 => ?_) (hs env)
  refine wp_iter hi (A' := A) hA.1 st1.rd r1 fun o fp N P S hof hd => ?_
  have nx : Nx b s1 fz1 { s1 with heap := s1.heap.push o } fz1 := Nx.grow st1.rd s1.toks (Nat.le_refl _) fun _ _ e => Heap.get?_push_of_some _ e
  obtain ⟨f1, f2, f3, f4, f5⟩ := st1.fresh (get?_size s1.heap)
  exact forLoop hA he hk (st1.next nx) hd f1 f2 f3 f4 f5 hfo fun fl s' fz' ix' st' k => h _ _ _ _ st' k
end
end Mine

end
section
open PySem PySem.Calls PySem.W PyProof.Rows
open Sem (wp)
set_option Elab.async false
set_option autoImplicit false
set_option linter.unusedVariables false
set_option maxRecDepth 100000
namespace Mine

theorem slot_md_get : Slot "method_descriptor" "__get__" "method_descriptor.__get__" :=
  .of (owner := "method_descriptor") (n := "__get__") (by rw [typeLookup_type, builtinLookup_eq_fast]; kernel_rfl) (by decide +kernel) (by decide +kernel) (by decide +kernel)
    (by first | exact .inl (by decide +kernel) | exact .inr (by decide +kernel)) (by rw [isSubtype_type]; kernel_rfl)
theorem entry_md_get : entryFor table "method_descriptor.__get__" = some Builtin.«method_descriptor.__get__» := entryFor_of_tree (by kernel_rfl)
theorem args_md_get (a b c : Value) : argsOk "method_descriptor.__get__" ⟨[a, b, c], []⟩ := by unfold argsOk; kernel_rfl
theorem lk_md_set : typeLookup (.type "method_descriptor") "__set__" = pure none := by rw [typeLookup_type, builtinLookup_eq_fast]; kernel_rfl
theorem lk_md_del : typeLookup (.type "method_descriptor") "__delete__" = pure none := by rw [typeLookup_type, builtinLookup_eq_fast]; kernel_rfl
theorem lk_append : typeLookup (.type "list") "append" = pure (some (.builtin "list.append")) := by rw [typeLookup_type, builtinLookup_eq_fast]; kernel_rfl
theorem sub_append_owner : isSubtype (.type "list") (.type (".".intercalate ("list.append".cutAt '.').dropLast)) = pure true := by
  have e0 : "list.append".cutAt '.' = ["list", "append"] := by first | rfl | decide +kernel
  have e1 : (".".intercalate ("list.append".cutAt '.').dropLast) = "list" := by rw [e0]; decide +kernel
  rw [e1, isSubtype_type]; kernel_rfl

section
variable {prog : Program} {w : World} {A : Around} {E : Value → Shared → Prop} {h : Heap} {g : Array GenState} {d : Drawn} {t : Nat} {os : OsState} {a : Addr} {o : Obj}
theorem append_get {R : Result → Shared → Prop} (hx : h.get? a = some o) (hc : o.cls = .type "list") (hq : R (.ok (.ret (.ref h.objs.size))) ⟨h.push (appO a), g, d, t, os⟩) :
    codeAny (model prog w) A (.call (.builtin "method_descriptor.__get__") ⟨[.builtin "list.append", .ref a, .type "list"], []⟩) R ⟨h, g, d, t, os⟩ := by
  have hT : (⟨h, g, d, t, os⟩ : Shared).TypeIs (.ref a) "list" := ⟨_, hx, hc⟩
  have hT5 : (⟨h, g, d, t, os⟩ : Shared).TypeIs (.builtin "list.append") "method_descriptor" := type_list_append
  have f8 := sub_append_owner
  refine codeAny_call_builtin slot_md_get.plain entry_md_get (slot_md_get.check _ _ _ _ _ _ _ _ hT5 (args_md_get _ _ _) ?_)
  repeat (any_goals (first | assumption | wp_step))

theorem append_entry {tk : Tok} {vs : Array Value} {n : Nat} {Q : Fin → Shared → Prop} (hx : h.get? a = some { cls := .type "list", dict := none, data := .seq vs n, slots := #[] }) (hq : Q (.done (.ret (.ref h.objs.size))) ⟨h.push (appO a), g, d, t, os⟩) :
    wpAny (model prog w) A (Builtin.«object.__getattribute__» ⟨[.ref a, .str "append" tk], []⟩) Q E ⟨h, g, d, t, os⟩ := by
  have hT : (⟨h, g, d, t, os⟩ : Shared).TypeIs (.ref a) "list" := ⟨_, hx, rfl⟩
  have hT5 : (⟨h, g, d, t, os⟩ : Shared).TypeIs (.builtin "list.append") "method_descriptor" := type_list_append
  have f4 := lk_append
  have f5 := type_list_append
  have f6 := slot_md_get.lookup
  have f7 := lk_md_set
  have f8 := lk_md_del
  repeat (any_goals (first | assumption | wp_step))
  refine append_get hx rfl ?_
  repeat (any_goals (first | assumption | wp_step))
theorem append_call {tk : Tok} {vs : Array Value} {n : Nat} {R : Result → Shared → Prop} (hx : h.get? a = some { cls := .type "list", dict := none, data := .seq vs n, slots := #[] }) (hq : R (.ok (.ret (.ref h.objs.size))) ⟨h.push (appO a), g, d, t, os⟩) :
    codeAny (model prog w) A (.call (.builtin "list.__getattribute__") ⟨[.ref a, .str "append" tk], []⟩) R ⟨h, g, d, t, os⟩ :=
  codeAny_call_builtin F.slot_list_getattribute.plain F.entry_list_ga (F.slot_list_getattribute.check _ _ _ _ _ _ _ _ (show (⟨h, g, d, t, os⟩ : Shared).TypeIs (.ref a) "list" from ⟨_, hx, rfl⟩) (F.args_list_getattribute_2 _ _) (append_entry hx hq))
theorem append_by {tk : Tok} {vs : Array Value} {n : Nat} {Q : Value → Shared → Prop} (hx : h.get? a = some { cls := .type "list", dict := none, data := .seq vs n, slots := #[] }) (hq : Q (.ref h.objs.size) ⟨h.push (appO a), g, d, t, os⟩) :
    wpAny (model prog w) A (getAttrBy (.ref a) (.str "append" tk) true true) Q E ⟨h, g, d, t, os⟩ := by
  have hT : (⟨h, g, d, t, os⟩ : Shared).TypeIs (.ref a) "list" := ⟨_, hx, rfl⟩
  have f2 := F.slot_list_getattribute.lookup
  have f3 := F.slot_list_getattribute.bind (.ref a)
  repeat (any_goals (first | assumption | wp_step))
  refine append_call hx ?_
  repeat (any_goals (first | assumption | wp_step))
theorem append_attr {vs : Array Value} {n : Nat} {Q : Value → Shared → Prop} (hx : h.get? a = some { cls := .type "list", dict := none, data := .seq vs n, slots := #[] }) (hq : Q (.ref h.objs.size) ⟨h.push (appO a), g, d, t + 1, os⟩) :
    wpAny (model prog w) A (getAttr (.ref a) "append" true) Q E ⟨h, g, d, t, os⟩ := by
  unfold getAttr
  repeat (any_goals (first | assumption | with_reducible apply append_by hx | wp_step))
end
end Mine

end
section
open PySem PySem.Calls PySem.W PyProof.Rows
open Sem (wp)
set_option Elab.async false
set_option autoImplicit false
set_option linter.unusedVariables false
set_option maxRecDepth 100000
namespace Mine
theorem bound_sig (a b : Value) : (match Manifest.signature? "list.append" with | some sig => Bind.checkArgs "list.append" { sig with full := s!"{Bind.lastOf "list"}.{Bind.lastOf "list.append"}" } ⟨[a, b], []⟩ | none => pure ()) = pure () := by kernel_rfl
theorem bound_kind : builtinKind "list.append" = some .method := by decide +kernel
theorem list_not_module : isSubtype (.type "list") (.type "module") = pure false := by rw [isSubtype_type]; kernel_rfl
section
variable {prog : Program} {w : World} {A : Around} {E : Value → Shared → Prop} {s : Shared} {a b : Addr} {o : Obj} {x : Value}
theorem bound_check {vs : Array Value} {n : Nat} {Q : Unit → Shared → Prop} (hx : s.heap.get? a = some (listO vs n)) (h : Q () s) : wpAny (model prog w) A (checkBoundCall "list.append" ⟨[.ref a, x], []⟩) Q E s := by
  have hT : s.TypeIs (.ref a) "list" := ⟨_, hx, rfl⟩
  have hsig := bound_sig (.ref a) x
  unfold checkBoundCall
  cases hs : Manifest.signature? "list.append" with
  | none => exact wpAny_pure h
  | some sig =>
    rw [hs] at hsig
    dsimp only
    rw [bound_kind]
    dsimp only
    rw [if_neg (by decide)]
    refine wpAny_bind (wpAny_isInstance hT list_not_module ?_)
    rw [if_neg (by decide +kernel)]
    have hnt : wpAny (model prog w) A (isType (.ref a)) (fun r s' => r = false ∧ s' = s) E s := by
      unfold isType
      refine wpAny_bind (wpAny_load hx ?_)
      exact wpAny_pure ⟨rfl, rfl⟩
    refine wpAny_bind (wpAny_mono hnt (fun r s' e => ?_) fun _ _ e => e)
    obtain ⟨rfl, rfl⟩ := e
    rw [if_neg (by decide)]
    refine wpAny_bind (wpAny_typeOf hT ?_)
    dsimp only
    exact wpAny_of_eq hsig h
theorem bound_call {vs : Array Value} {n : Nat} {Q : Value → Shared → Prop} (hb : s.heap.get? b = some (appO a)) (hx : s.heap.get? a = some (listO vs n)) (hsz : vs.size ≤ sizeLine)
    (h : ∀ h', h'.PlainList a (vs.push x) → Heap.SameBut a s.heap h' → Q .none { s with heap := h' }) : wpAny (model prog w) A (call (.ref b) [x]) Q E s := by
  refine wpAny_call (codeAny_of_tree ?_)
  show wpAny _ A.in1 (callAny (.ref b) ⟨[x], []⟩) _ _ s
  unfold callAny
  refine wpAny_bind (wpAny_load hb ?_)
  show wpAny _ A.in1 (if (_ : Bool) = true then _ else _) _ _ s
  rw [if_pos (by rfl)]
  refine wpAny_bind (bound_check hx ?_)
  refine wpAny_pure ⟨plainId_quiet slot_list_append.plain _, codeAny_builtin entry_list_append ?_⟩
  rw [Around.under_plainId slot_list_append.plain]
  show wpAny _ _ (updateSeq a (·.push x) >>= fun _ => ret .none) _ _ s
  refine wpAny_bind (wpAny_updateSeq hx rfl ?_ hsz (by rw [Array.size_push]; omega))
  exact wpAny_pure (h _ ⟨n + 1, (Heap.get?_update_self _ hx rfl).trans (by simp [Obj.mapSeq])⟩ (Heap.SameBut.update ..))
end
end Mine

end
section
open PySem PySem.Calls PySem.W PyProof.Rows
set_option Elab.async false
set_option autoImplicit false
set_option linter.unusedVariables false
set_option maxRecDepth 100000
namespace Mine

noncomputable abbrev EvLJ (c : C) (b : Bool) (n : Nat) (sc : Scope) (σ : Sg) (t : Env → Sem (List Value)) (l : List V) : Prop := ∀ ix : IX, ix.N = σ.N → EvL c ⟨b, n, sc, σ.m, σ.mu, ix⟩ t l

section
variable {c : C} {b : Bool} {n : Nat} {sc : Scope} {σ σ' σ₁ : Sg} {f : Fl}

theorem EvLJ.run {t : Env → Sem (List Value)} {l : List V} (h : EvLJ c b n sc σ t l) {A : Around} {env : Env} {s s₀ : Shared} {fz fz₀ : FM} {ix ix₀ : IX} {Q : List Value → Shared → Prop} {E : Value → Shared → Prop} (hA : Room n A) (he : env.scope = sc) (y : St c b s₀ fz₀ ix₀ fz ix env s σ)
    (hq : ∀ v s' fz', St c b s₀ fz₀ ix₀ fz' ix env s' σ → Nx b s fz s' fz' → Rs fz' ix v l → Q v s') : wpAny c.M A (t env) Q E s :=
  h ix y.n A env s fz Q E hA he y.rd fun v s' fz' nx r => hq v s' fz' (y.next nx) nx r

theorem St.kind {s₀ s : Shared} {fz₀ fz : FM} {ix₀ ix : IX} {env : Env} (x : St c b s₀ fz₀ ix₀ fz ix env s σ) : interactive env = false := by
  unfold interactive; rw [x.rd.ek]; rfl

theorem IX.put_self (ix : IX) (a : Addr) : (ix.put a) ix.N = some a := if_pos rfl

/-- a list display that is kept under a name is the function's own -/
theorem ExS.assignList {y : Str} {p pos lp : Pos} {es : List PySem.Expr} {l : List V} (hv : EvLJ c b n sc σ (fun env => spliced (backTo lp (starEach es env))) l) (hl : l.length ≤ sizeLine) (hk : Stor sc y) :
    ExS c b n sc (exec (.Assign [.Name y p] (.List es lp) pos)) σ .next ((σ.new (.list l)).set y (.ml σ.N)) := .mk fun A env s s₀ fz fz₀ ix ix₀ Q E hA he st h => by
  refine wpAny_Assign_Name (List_ (hv.run hA he st fun vs s1 fz1 st1 n1 rs => ?_)) rfl
  have hc : CellOk fz1 ix (s1.heap.push (listO vs.toArray 0)) s1.heap.objs.size (.list l) := ⟨hl, vs.toArray, 0, Heap.get?_push_size _ rfl, by simpa using rs⟩
  have st2 := st1.newOwn (listO vs.toArray 0) (.list l) rfl (Nat.le_refl _) hc
  refine wpAny_newObj_type ?_ (by show vs.toArray.size ≤ sizeLine; rw [List.size_toArray, rs.1]; exact hl)
  refine wp_store hk he st2 (.ml ?_) fun s' st' => h _ _ _ _ st' .next
  rw [← st1.n]; exact IX.put_self _ _

/-- the own list that a name stands for -/
theorem own_at {s₀ s : Shared} {fz₀ fz : FM} {ix₀ ix : IX} {env : Env} (x : St c b s₀ fz₀ ix₀ fz ix env s σ) {i : Nat} {l : List V} (hi : σ.mu i = some (.list l)) {v : Value} (r : R fz ix v (.ml i)) :
    ∃ a vs k, v = .ref a ∧ ix i = some a ∧ s.heap.get? a = some (listO vs k) ∧ Rs fz ix vs.toList l ∧ l.length ≤ sizeLine := by
  cases r with
  | ml ha =>
    rename_i a
    obtain ⟨a', e1, hl, vs, k, e2, rs⟩ := x.rd.mus i _ hi
    rw [ha] at e1; cases e1
    exact ⟨a, vs, k, rfl, ha, e2, rs, hl⟩

theorem pushed {s₀ s : Shared} {fz₀ fz : FM} {ix₀ ix : IX} {env : Env} (st : St c b s₀ fz₀ ix₀ fz ix env s σ) {i : Nat} {a : Addr} {l : List V} {x : V} {vs : Array Value} {u : Value} (hi : σ.mu i = some (.list l)) (ha : ix i = some a) (hs : l.length + 1 ≤ sizeLine)
    (rs : Rs fz ix vs.toList l) (r : R fz ix u x) {h' : Heap} (hp : h'.PlainList a (vs.push u)) (sb : Heap.SameBut a s.heap h') : St c b s₀ fz₀ ix₀ fz ix env { s with heap := h' } (σ.put i (l ++ [x])) := by
  obtain ⟨k, hp⟩ := hp
  refine st.setOwn hi ha (by rw [List.length_append]; simpa using hs) hp ?_ sb
  rw [Array.toList_push]
  exact rs.append (Rs.cons r Rs.nil)

theorem ExS.appendM {y : Str} {yp ap pos p2 : Pos} {e : PySem.Expr} {i : Nat} {l : List V} {x : V} (hk : Stor sc y) (hd : (y == ("__debug__" : Str)) = false) (hcd : (y == ("__classdict__" : Str)) = false) (hline : (ap.endLine == pos.line) = true) (hm : σ.m y = some (.ml i)) (hi : σ.mu i = some (.list l)) (hs : l.length + 1 ≤ sizeLine) (hstar : noStar e = true)
    (hv : EvJ c b n sc σ (eval e) x) : ExS c b n sc (exec (.Expr (.Call (.Attribute (.Name y yp) "append" ap) [e] [] pos) p2)) σ .next (σ.put i (l ++ [x])) := .mk fun A env s s₀ fz fz₀ ix ix₀ Q E hA he st h => by
  refine wpAny_Expr ?_ st.kind rfl
  refine wpAny_Call_method (T := "list") (id := "list.append") rfl ?_ hline PySem.F.plainAttrs_list PySem.F.slot_list_append PySem.F.type_list_append ?_
  · rw [all_noStar (by simp [hstar])]
    simp [show ∀ p env, backToKw p (keywordEach [] env) = [] from fun _ _ => rfl]
  · refine wpAny_Name (wp_load hk he hcd st.rd hm fun u r => ?_) hd
    obtain ⟨a, vs, k, rfl, ha, ho, rs, hl⟩ := own_at st hi r
    refine ⟨⟨_, ho, rfl⟩, fun ad q => ?_, ?_⟩
    · cases q; exact ⟨_, ho, rfl⟩
    · refine callWith_builtin (first := [.ref a]) (any_noStar (by simp [hstar])) (wp_evalArgs (by simp [hstar]) ?_)
      have hv' : EvLJ c b n sc σ (fun env => spliced (backTo pos (starEach [e] env))) [x] := fun ix hN => EvL.cons hstar (hv ix hN) EvL.nil
      refine hv'.run hA he st fun ws s1 fz1 st1 n1 rw => ?_
      obtain ⟨w, rfl, rw'⟩ := rw.one
      obtain ⟨a2, vs1, k1, q, ha1, ho1, rs1, _⟩ := own_at st1 hi (r.up n1.le)
      cases q
      refine wpAny_list_append_plain (items := vs1) ⟨k1, ho1⟩ (fun h' hp sb => ?_) (by have := rs1.1; rw [Array.length_toList] at this; omega)
      exact h _ _ _ _ (pushed st1 hi ha hs rs1 rw' hp sb) .next

theorem append_attr' {prog : Program} {w : World} {A : Around} {E : Value → Shared → Prop} {s : Shared} {a : Addr} {vs : Array Value} {n : Nat} {Q : Value → Shared → Prop} (hx : s.heap.get? a = some (listO vs n))
    (hq : Q (.ref s.heap.objs.size) { s with heap := s.heap.push (appO a), toks := s.toks + 1 }) : wpAny (model prog w) A (getAttr (.ref a) "append" true) Q E s := by
  cases s; exact append_attr hx hq
/-- add = res.append -/
theorem ExS.assignApp {y r : Str} {p rp ap pos : Pos} {i : Nat} {l : List V} (hk : Stor sc y) (hkr : Stor sc r) (hd : (r == ("__debug__" : Str)) = false) (hcd : (r == ("__classdict__" : Str)) = false) (hm : σ.m r = some (.ml i)) (hi : σ.mu i = some (.list l)) :
    ExS c b n sc (exec (.Assign [.Name y p] (.Attribute (.Name r rp) "append" ap) pos)) σ .next (σ.set y (.app i)) := .mk fun A env s s₀ fz fz₀ ix ix₀ Q E hA he st h => by
  refine wpAny_Assign_Name ?_ rfl
  show wpAny c.M A (do
    let o ← eval (.Name r rp) env
    standAt ap.atName
    let v ← holding [o] (getAttr o "append" true)
    letTemporaryGo (.Name r rp) o v
    pure v) _ E s
  refine wpAny_bind (wpAny_Name (wp_load hkr he hcd st.rd hm fun u ru => ?_) hd)
  obtain ⟨a, vs, k, rfl, ha, ho, rs, hl⟩ := own_at st hi ru
  refine wpAny_bind (wpAny_standAt (wpAny_bind (wpAny_holding ?_)))
  refine append_attr' ho ?_
  have nx := (Nx.push (b := b) st.rd (s.toks + 1) (Nat.le_succ _) (appO a))
  have st2 := st.next nx
  refine wpAny_bind (wpAny_pure (wpAny_pure ?_))
  refine wp_store hk he st2 (.app ha (FM.put_self _ _ _)) fun s' st' => h _ _ _ _ st' .next

/-- add(x) -/
theorem ExS.appendB {y : Str} {yp pos p2 : Pos} {e : PySem.Expr} {i : Nat} {l : List V} {x : V} (hk : Stor sc y) (hd : (y == ("__debug__" : Str)) = false) (hcd : (y == ("__classdict__" : Str)) = false) (hm : σ.m y = some (.app i)) (hi : σ.mu i = some (.list l)) (hs : l.length + 1 ≤ sizeLine) (hstar : noStar e = true)
    (hv : EvJ c b n sc σ (eval e) x) : ExS c b n sc (exec (.Expr (.Call (.Name y yp) [e] [] pos) p2)) σ .next (σ.put i (l ++ [x])) := .mk fun A env s s₀ fz fz₀ ix ix₀ Q E hA he st h => by
  refine wpAny_Expr ?_ st.kind rfl
  show wpAny c.M A (do callWith pos (← eval (.Name y yp) env) [] (backTo pos (starEach [e] env)) []) _ E s
  refine wpAny_bind (wpAny_Name (wp_load hk he hcd st.rd hm fun u r => ?_) hd)
  cases r with
  | app ha hb =>
    rename_i a bb
    have hv' : EvLJ c b n sc σ (fun env => spliced (backTo pos (starEach [e] env))) [x] := fun ix hN => EvL.cons hstar (hv ix hN) EvL.nil
    refine callWith_of (P := fun hh => hh.get? bb = some (appO a)) (first := []) (by rw [List.any_nil, Bool.or_false]; exact any_noStar (by simp [hstar])) (fun hh hP => ⟨.machine, .inr (.inl rfl), ?_⟩) ?_
    · exact Looks.andThen (Looks.ld hP) Looks.now
    · refine wp_evalArgs (by simp [hstar]) ?_
      refine hv'.run hA he st fun ws s1 fz1 st1 n1 rw => ?_
      obtain ⟨w, rfl, rw'⟩ := rw.one
      refine ⟨n1.fzh _ _ (n1.le _ _ hb), ?_⟩
      obtain ⟨a2, vs1, k1, q, ha1, ho1, rs1, hl⟩ := own_at st1 hi (.ml ha)
      cases q
      refine bound_call (st1.rd.fzh _ _ (n1.le _ _ hb)) ho1 (by have := rs1.1; rw [Array.length_toList] at this; omega) fun h' hp sb => ?_
      exact h _ _ _ _ (pushed st1 hi ha hs rs1 rw' hp sb) .next
end
end Mine

end
section
open PySem PySem.Calls PySem.W PyProof.Rows
set_option Elab.async false
set_option autoImplicit false
set_option linter.unusedVariables false
set_option maxRecDepth 100000
namespace Mine

section
variable {c : C} {b : Bool} {n : Nat} {sc : Scope} {σ σ' σ₁ : Sg} {f : Fl}

noncomputable def setAll (σ : Sg) : List Str → List V → Sg
  | y :: ys, x :: xs => setAll (σ.set y x) ys xs
  | _, _ => σ
noncomputable def names? : List PySem.Expr → Option (List Str)
  | [] => some []
  | .Name y _ :: r => (names? r).map (y :: ·)
  | _ => none
noncomputable def Setter (c : C) (env : Env) (t : Value → Sem Unit) (y : Str) : Prop := ∀ (A : Around) (E : Value → Shared → Prop) (s : Shared) (Q : Unit → Shared → Prop) (v : Value), wpAny c.M A (storeName env y v) Q E s → wpAny c.M A (t v) Q E s
inductive Setters (c : C) (env : Env) : List (Value → Sem Unit) → List Str → Prop
  | nil : Setters c env [] []
  | cons {t : Value → Sem Unit} {y : Str} {ts : List (Value → Sem Unit)} {ys : List Str} : Setter c env t y → Setters c env ts ys → Setters c env (t :: ts) (y :: ys)
theorem Setters.bind {env : Env} : ∀ ys : List Str, Setters c env (ys.map fun y => bindName env y) ys
  | [] => .nil
  | y :: ys => .cons (fun A E s Q v h => wpAny_bindName h) (Setters.bind ys)
theorem Setters.each {env : Env} : ∀ {elts : List PySem.Expr} {ys : List Str}, names? elts = some ys → Setters c env ((assignEach elts env).map (·.2)) ys := by
  intro elts
  induction elts with
  | nil => intro ys hn; cases hn; exact .nil
  | cons e elts ih =>
    intro ys hn
    cases e with
    | Name y p =>
      unfold names? at hn
      rw [Option.map_eq_some_iff] at hn
      obtain ⟨ys', hn', rfl⟩ := hn
      exact .cons (fun A E s Q v h => wpAny_assign_Name h) (ih hn')
    | _ => cases hn
theorem wp_setAll {A : Around} {env : Env} {s₀ : Shared} {fz fz₀ : FM} {ix ix₀ : IX} {E : Value → Shared → Prop} (he : env.scope = sc) {ts : List (Value → Sem Unit)} {ys : List Str} (hts : Setters c env ts ys) :
    ∀ (vs : List Value) (xs : List V) (σ : Sg) (s : Shared) (Q : Unit → Shared → Prop), (∀ y ∈ ys, Stor sc y) → St c b s₀ fz₀ ix₀ fz ix env s σ → Rs fz ix vs xs → ys.length = xs.length →
      (∀ s', St c b s₀ fz₀ ix₀ fz ix env s' (setAll σ ys xs) → Q () s') → wpAny c.M A (assignInOrder ts vs) Q E s := by
  induction hts with
  | nil =>
    intro vs xs σ s Q _ st rs hl h
    have : xs = [] := by simpa using hl.symm
    subst this
    rw [rs.nil_inv]
    exact assignInOrder_nil (h s st)
  | cons h1 _ ih =>
    intro vs xs σ s Q hk st rs hl h
    cases xs with
    | nil => simp at hl
    | cons x xs =>
      obtain ⟨v, vs', rfl, r, rs'⟩ := rs.cons_inv
      refine assignInOrder_cons (h1 _ _ _ _ _ (wp_store (hk _ (List.mem_cons_self ..)) he st r fun s' st' => ?_))
      exact ih vs' xs _ s' Q (fun z hz => hk z (List.mem_cons_of_mem _ hz)) st' rs' (by simpa using hl) h

theorem St.ext {s₀ s : Shared} {fz₀ fz : FM} {ix₀ ix : IX} {env : Env} (x : St c b s₀ fz₀ ix₀ fz ix env s σ) {h' : Heap} (he : Heap.ExtBut s.heap.objs.size s.heap h') : St c b s₀ fz₀ ix₀ fz ix env { s with heap := h' } σ :=
  x.next (Nx.grow x.rd s.toks (Nat.le_refl _) fun a o e => he a o (by rintro rfl; exact absurd (Heap.lt_size e) (Nat.lt_irrefl _)) e)
theorem names_len {env : Env} : ∀ {elts : List PySem.Expr} {ys : List Str}, names? elts = some ys → (assignEach elts env).length = ys.length ∧ (assignEach elts env).findIdx? (·.1) = none := by
  intro elts
  induction elts with
  | nil => intro ys hn; cases hn; exact ⟨rfl, rfl⟩
  | cons e elts ih =>
    intro ys hn
    cases e with
    | Name y p =>
      unfold names? at hn
      rw [Option.map_eq_some_iff] at hn
      obtain ⟨ys', hn', rfl⟩ := hn
      obtain ⟨h1, h2⟩ := ih hn'
      constructor
      · show (assignEach elts env).length + 1 = ys'.length + 1; rw [h1]
      · show ((false, assign (.Name y p) env) :: assignEach elts env).findIdx? (·.1) = none
        rw [List.findIdx?_cons, h2]; rfl
    | _ => cases hn

theorem St.tup {s₀ s : Shared} {fz₀ fz : FM} {ix₀ ix : IX} {env : Env} (x : St c b s₀ fz₀ ix₀ fz ix env s σ) {v : Value} {xs : List V} (r : R fz ix v (.tup xs)) : ∃ ad vs, v = .ref ad ∧ IsTup s.heap ad (List.toArray vs) ∧ Rs fz ix vs xs := tup_spec x.rd r

/-- a, b = a tuple from elsewhere -/
theorem ExS.assignTup {elts : List PySem.Expr} {ys : List Str} {e : PySem.Expr} {k : Nat} {tp pos : Pos} {xs : List V} (hn : names? elts = some ys) (hk : ∀ y ∈ ys, Stor sc y) (hl : ys.length = xs.length) (hv : EvJ c b n sc σ (eval e) (.tup xs))
    (hs : ∀ env : Env, swapsWithSole [.Tuple elts k tp] e pos.line env = pure false) (hw : ∀ env : Env, swappedStores [.Tuple elts k tp] e env = pure none) :
    ExS c b n sc (exec (.Assign [.Tuple elts k tp] e pos)) σ .next (setAll σ ys xs) := .mk fun A env s s₀ fz fz₀ ix ix₀ Q E hA he st h => by
  refine Assign_Tuple (hv.run hA he st fun v s1 fz1 st1 n1 r1 => ?_) (hs env) (hw env)
  obtain ⟨ad, vs, rfl, ht, rs⟩ := st1.tup r1
  obtain ⟨q1, q2⟩ := names_len (env := env) hn
  refine assign_Tuple_tuple hA.1 ht (by rw [q1, List.size_toArray, rs.1, hl]) q2 fun h' hx => ?_
  exact wp_setAll he (Setters.each hn) _ _ _ _ _ hk (st1.ext hx) (by simpa using rs) hl fun s' st' => h _ _ _ _ st' .next
/-- a, b = x, y where the stores are swapped -/
theorem ExS.assignSwap {elts : List PySem.Expr} {ys : List Str} {e : PySem.Expr} {k : Nat} {tp pos : Pos} {xs : List V} (hk : ∀ y ∈ ys, Stor sc y) (hl : ys.length = xs.length) (hv : EvJ c b n sc σ (eval e) (.tup xs))
    (hs : ∀ env : Env, swapsWithSole [.Tuple elts k tp] e pos.line env = pure false) (hw : ∀ env : Env, env.scope = sc → swappedStores [.Tuple elts k tp] e env = pure (some ys)) :
    ExS c b n sc (exec (.Assign [.Tuple elts k tp] e pos)) σ .next (setAll σ ys.reverse xs.reverse) := .mk fun A env s s₀ fz fz₀ ix ix₀ Q E hA he st h => by
  refine Assign_Tuple_swapped (hv.run hA he st fun v s1 fz1 st1 n1 r1 => ?_) (hs env) (hw env he)
  obtain ⟨ad, vs, rfl, ht, rs⟩ := st1.tup r1
  have hn : ys.length = vs.toArray.size := by rw [List.size_toArray, rs.1, hl]
  rw [hn]
  refine unpackItems_tuple hA.1 ht fun h' hx => ?_
  have rs' : Rs fz1 ix vs.toArray.toList.reverse xs.reverse := by
    refine ⟨by simp [rs.1], fun i u y hu hy => ?_⟩
    have hlen := rs.1
    have hi : i < vs.length := by
      have := (List.getElem?_eq_some_iff.mp hu).1; simpa using this
    rw [List.getElem?_reverse (by simpa using hi)] at hu
    rw [List.getElem?_reverse (by omega)] at hy
    refine rs.2 (vs.length - 1 - i) u y (by simpa using hu) ?_
    rw [hlen]; exact hy
  exact wp_setAll he (Setters.bind ys.reverse) _ _ _ _ _ (fun y hy => hk y (by simpa using hy)) (st1.ext hx) rs' (by simp [hl]) fun s' st' => h _ _ _ _ st' .next
end
end Mine

end
section
open PySem PySem.Calls PySem.W PyProof.Rows
set_option Elab.async false
set_option autoImplicit false
set_option linter.unusedVariables false
set_option maxRecDepth 100000
namespace Mine

/-- what is handed out of a function: its own lists are frozen -/
inductive Frz (mu : MU) (N : Nat) : V → V → Prop
  | non : Frz mu N .non .non
  | bool (x : Bool) : Frz mu N (.bool x) (.bool x)
  | int (i : Int) : Frz mu N (.int i) (.int i)
  | str (l : List Nat) : Frz mu N (.str l) (.str l)
  | lit (l : List Nat) : Frz mu N (.lit l) (.str l)
  | rng (a z k : Int) : Frz mu N (.rng a z k) (.rng a z k)
  | ty (t : String) : Frz mu N (.ty t) (.ty t)
  | con (a : Nat) : Frz mu N (.con a) (.con a)
  | tup {l l' : List V} : l.length = l'.length → (∀ (i : Nat) (x y : V), l[i]? = some x → l'[i]? = some y → Frz mu N x y) → Frz mu N (.tup l) (.tup l')
  | lst {l l' : List V} : l.length = l'.length → (∀ (i : Nat) (x y : V), l[i]? = some x → l'[i]? = some y → Frz mu N x y) → Frz mu N (.lst l) (.lst l')
  | own {i : Nat} {l l' : List V} : mu i = some (.list l) → l.length = l'.length → (∀ (k : Nat) (x y : V), l[k]? = some x → l'[k]? = some y → Frz mu N x y) → Frz mu N (.ml i) (.lst l')
  | out {i : Nat} : i < N → Frz mu N (.ml i) (.ml i)

section
variable {c : C} {b : Bool} {n : Nat} {sc : Scope} {σ σ' σ₁ : Sg} {f : Fl}

noncomputable def frozen (fz : FM) (ix : IX) (mu : MU) (h : Heap) : FM := fun a => match fz a with
  | some o => some o
  | none => @ite _ (∃ i l, mu i = some (.list l) ∧ ix i = some a) (Classical.propDecidable _) (h.get? a) none
theorem frozen_le {fz : FM} {ix : IX} {mu : MU} {h : Heap} : fz.le (frozen fz ix mu h) := fun a o e => by unfold frozen; rw [e]
theorem frozen_heap {fz : FM} {ix : IX} {mu : MU} {h : Heap} (hf : ∀ a o, fz a = some o → h.get? a = some o) {a : Addr} {o : Obj} (e : frozen fz ix mu h a = some o) : h.get? a = some o := by
  unfold frozen at e
  split at e
  · rename_i o' q; cases e; exact hf _ _ q
  · split at e
    · exact e
    · cases e
theorem frozen_own {fz : FM} {ix : IX} {mu : MU} {h : Heap} {i : Nat} {a : Addr} {l : List V} (hi : mu i = some (.list l)) (ha : ix i = some a) (hn : fz a = none) : frozen fz ix mu h a = h.get? a := by
  unfold frozen; rw [hn]; exact if_pos ⟨i, l, hi, ha⟩
theorem frozen_new {fz : FM} {ix : IX} {mu : MU} {h : Heap} {a : Addr} {o : Obj} (e : frozen fz ix mu h a = some o) : fz a = some o ∨ ∃ i l, mu i = some (.list l) ∧ ix i = some a := by
  unfold frozen at e
  split at e
  · rename_i o' q; cases e; exact .inl q
  · split at e
    · rename_i q; exact .inr q
    · cases e

theorem Frz.sound {s₀ s : Shared} {fz₀ fz : FM} {ix₀ ix : IX} {env : Env} (st : St c b s₀ fz₀ ix₀ fz ix env s σ) (hN : ∀ i, i < ix₀.N → ∀ a, ix i = some a → ix₀ i = some a) {x y : V} (h : Frz σ.mu ix₀.N x y) :
    ∀ v, R fz ix v x → R (frozen fz ix σ.mu s.heap) ix₀ v y := by
  induction h with
  | non => intro v r; cases r; exact .non
  | bool x => intro v r; cases r; exact .bool _
  | int i => intro v r; cases r; exact .int _ _
  | str l => intro v r; cases r; exact .str _ _ (by assumption)
  | lit l => intro v r; cases r; exact .str _ _ (by assumption)
  | rng a z k => intro v r; cases r with | rng h1 => exact .rng (frozen_le _ _ h1)
  | ty t => intro v r; cases r; exact .ty _
  | con a => intro v r; cases r; exact .con _
  | tup hl _ ih =>
    intro v r
    cases r with
    | tup h1 h2 h3 h4 h5 =>
      rename_i l l' _ a o vs n
      refine .tup (frozen_le _ _ h1) h2 h3 (by omega) fun i u y hu hy => ?_
      have hi : i < l.length := by rw [hl]; exact (List.getElem?_eq_some_iff.mp hy).1
      exact ih i l[i] y (by simp [hi]) hy u (h5 i u _ hu (by simp [hi]))
  | lst hl _ ih =>
    intro v r
    cases r with
    | lst h0 h1 h2 h3 h4 h5 =>
      rename_i l l' _ a o vs n
      refine .lst (by omega) (frozen_le _ _ h1) h2 h3 (by omega) fun i u y hu hy => ?_
      have hi : i < l.length := by rw [hl]; exact (List.getElem?_eq_some_iff.mp hy).1
      exact ih i l[i] y (by simp [hi]) hy u (h5 i u _ hu (by simp [hi]))
  | own hi hl _ ih =>
    intro v r
    cases r with
    | ml ha =>
      rename_i i l l' _ a
      obtain ⟨a', e1, hsz, vs, k, e2, rs⟩ := st.rd.mus i _ hi
      rw [ha] at e1; cases e1
      have hlen := rs.1
      refine .lst (o := listO vs k) (vs := vs) (n := k) (by omega) ?_ rfl rfl (by omega) fun j u y hu hy => ?_
      · rw [frozen_own hi ha (st.own i _ a hi ha).2, e2]
      · have hj : j < l.length := by rw [hl]; exact (List.getElem?_eq_some_iff.mp hy).1
        exact ih j l[j] y (by simp [hj]) hy u (rs.2 j u _ hu (by simp [hj]))
  | out hi =>
    intro v r
    cases r with
    | ml ha => exact .ml (hN _ hi _ ha)

theorem St.freeze {s₀ s : Shared} {fz₀ fz : FM} {ix₀ ix : IX} {env : Env} (st : St c b s₀ fz₀ ix₀ fz ix env s σ) : Nx b s₀ fz₀ s (frozen fz ix σ.mu s.heap) where
  same := st.nx.same
  le := FM.le_trans st.nx.le frozen_le
  fzh := fun a o e => frozen_heap st.rd.fzh e
  ext := fun a o e => by
    rcases frozen_new e with q | ⟨i, l, q1, q2⟩
    · exact st.nx.ext a o q
    · exact .inr (st.own i _ a q1 q2).1
  kp := st.nx.kp
  tab := st.nx.tab
  tk := st.nx.tk

noncomputable def argm : List Str → List V → Loc → Loc
  | y :: ys, x :: xs, m => argm ys xs (upd m y x)
  | _, _, m => m
theorem argm_spec {fz : FM} {ix : IX} {kindOf : Str → Option NameKind} : ∀ (ps : List Str) (vs : List Value) (xs : List V) (m : Loc) (mv mc : Str → Option Value), Rs fz ix vs xs → ps.length = xs.length →
    (∀ y v, m y = some v → ∃ u, (if kindOf y = some .local then mv y else mc y) = some u ∧ R fz ix u v) →
    ∀ y v, argm ps xs m y = some v → ∃ u, (if kindOf y = some .local then bindL kindOf (ps.zip vs) mv y else bindC kindOf (ps.zip vs) mc y) = some u ∧ R fz ix u v
  | [], vs, xs, m, mv, mc, rs, hl, hm => by
    have : xs = [] := by simpa using hl.symm
    subst this
    exact hm
  | p :: ps, vs, [], m, mv, mc, rs, hl, hm => by simp at hl
  | p :: ps, vs, x :: xs, m, mv, mc, rs, hl, hm => by
    obtain ⟨v, vs', rfl, r, rs'⟩ := rs.cons_inv
    intro y w hy
    have hy' : argm ps xs (upd m p x) y = some w := hy
    refine argm_spec ps vs' xs (upd m p x) (if kindOf p = some .local then fun y => if y = p then some v else mv y else mv) (if kindOf p = some .local then mc else fun y => if y = p then some v else mc y) rs' (by simpa using hl) (fun z u hz => ?_) y w hy'
    by_cases q : z = p
    · subst q
      rw [upd_self] at hz; cases hz
      refine ⟨v, ?_, r⟩
      by_cases k : kindOf z = some .local
      · simp [k]
      · simp [k]
    · rw [upd_ne q] at hz
      obtain ⟨u', e, r'⟩ := hm z u hz
      refine ⟨u', ?_, r'⟩
      by_cases k : kindOf z = some .local <;> by_cases k2 : kindOf p = some .local <;> simp [k, k2, q] at e ⊢ <;> exact e
theorem argm_mem : ∀ (ps : List Str) (xs : List V) (m : Loc) (y : Str) (v : V), argm ps xs m y = some v → y ∈ ps ∨ m y = some v
  | [], xs, m, y, v, h => .inr h
  | p :: ps, [], m, y, v, h => .inr h
  | p :: ps, x :: xs, m, y, v, h => by
    rcases argm_mem ps xs (upd m p x) y v h with q | q
    · exact .inl (List.mem_cons_of_mem _ q)
    · by_cases e : y = p
      · subst e; exact .inl (List.mem_cons_self ..)
      · rw [upd_ne e] at q; exact .inr q

theorem cellsFrom_some : ∀ (names : List (Str × NameKind)) (k : Nat) (acc : List (Str × Addr)) (y : Str), ((acc.lookup y).isSome = true ∨ names.lookup y = some .cell) → ((cellsFrom k names acc).lookup y).isSome = true
  | [], k, acc, y, h => by
    rcases h with h | h
    · exact h
    · cases h
  | (z, kd) :: r, k, acc, y, h => by
    unfold cellsFrom
    by_cases hc : (kd == NameKind.cell) = true
    · rw [if_pos hc]
      refine cellsFrom_some r (k + 1) ((z, k) :: acc) y ?_
      by_cases q : y = z
      · subst q; left; simp [List.lookup_cons]
      · have hb : (y == z) = false := by simpa using q
        rcases h with h | h
        · left; rw [List.lookup_cons, hb]; exact h
        · right; rw [List.lookup_cons, hb] at h; exact h
    · rw [if_neg hc]
      refine cellsFrom_some r k acc y ?_
      rcases h with h | h
      · exact .inl h
      · by_cases q : y = z
        · subst q
          rw [List.lookup_cons] at h
          simp at h; subst h; exact absurd (by rfl) hc
        · have hb : (y == z) = false := by simpa using q
          rw [List.lookup_cons, hb] at h; exact .inr h

/-- a function of the program -/
structure FnAt (h : Heap) (a : Addr) (fd : FuncData) (body : List Stmt) (ps : List Str) : Prop where
  obj : ∃ o, h.get? a = some o ∧ o.data = .func fd
  body : fd.body = .stmts body
  clo : fd.closure = []
  glob : fd.globals = mainGlobals
  bn : fd.builtins = builtinsNs
  cd : h.CodeRec fd.code fd.qualname
  kind : fd.scope.kind = .function
  co : fd.scope.isCoroutine = false
  gen : fd.scope.isGenerator = false
  bind : ∀ vs : List Value, vs.length = ps.length → bindArgs fd ⟨vs, []⟩ = pure (ps.zip vs)
  par : ∀ y ∈ ps, Stor fd.scope y
  cds : fd.scope.names.lookup ("stuff" : Str) = some .local → fd.code = .ref 85

theorem OpN.own {j : J} {a : Addr} {fd : FuncData} {body : List Stmt} {ps : List Str} {l : List V} {x y : V} {n' : Nat} (F : FnAt c.h₀ a fd body ps) (hn : j.n = n' + 1) (hl : ps.length = l.length) {σ' : Sg}
    (hb : ExS c j.b n' fd.scope (execs body) ⟨argm ps l fun _ => none, fun _ => none, j.ix.N⟩ (.ret x) σ') (hf : Frz σ'.mu j.ix.N x y) : OpN c j (fun vs => call (.ref a) vs) l y := .mk fun A env s fz vs Q E hA hR rs h => by
  obtain ⟨o, ho, hd⟩ := F.obj
  have hroom : A.depth < recursionLimit := by have := hA.2.1; omega
  have hst := hR.st
  have hlen : vs.length = ps.length := by rw [rs.1, hl]
  refine wpAny_call (codeAny_call_function hroom (hst _ _ ho) hd F.co F.gen F.body (F.cd.keeps hst) ?_)
  rw [F.bind vs hlen, F.clo]
  refine wpAny_pure (wpAny_with_toks (Nat.le_refl s.toks) (wpAny_newFunctionEnv_cells F.kind (fun z hz => ?_) fun env' he s₁ X htk => ?_))
  · have hz' : z.1 ∈ ps := (List.of_mem_zip (show (z.1, z.2) ∈ ps.zip vs from hz)).1
    rcases F.par z.1 hz' with q | q
    · exact .inl q
    · exact .inr ⟨q, cellsFrom_some _ _ _ _ (.inr q)⟩
  · subst he
    refine ⟨(c.hB.nolim.keeps hst).keeps X.toInCall.keep, codeAny_func ?_⟩
    have hkeep := X.toInCall.keep
    have high : ∀ d, s.heap.objs.size ≤ d → s.heap.get? d = none := fun d hd' => Heap.get?_none_of_le hd'
    have hfz : ∀ d, s.heap.objs.size ≤ d → fz d = none := fun d hd' => by
      cases e : fz d with
      | none => rfl
      | some oo => have := hR.fzh _ _ e; rw [high d hd'] at this; cases this
    have hix : ∀ d, s.heap.objs.size ≤ d → ∀ i, j.ix i ≠ some d := fun d hd' i e => by
      obtain ⟨oo, e'⟩ := hR.ixh i d e; rw [high d hd'] at e'; cases e'
    have hspec := argm_spec (fz := fz) (ix := j.ix) (kindOf := fun z => fd.scope.names.lookup z) ps vs l (fun _ => none) (fun _ => none) (fun _ => none) rs hl (fun z v e => by cases e)
    have htab : T81 s₁.heap := let ⟨q, h1, h2⟩ := hR.tab; ⟨q, h1, hkeep _ _ h2⟩
    obtain ⟨h1, tk1, hs1⟩ := X.toInCall.same
    have st : St c j.b s fz j.ix fz j.ix _ s₁ ⟨argm ps l fun _ => none, fun _ => none, j.ix.N⟩ := {
      rd := {
        ek := F.kind
        eg := F.glob
        eb := F.bn
        base := hR.base
        fzh := fun d oo e => hkeep _ _ (hR.fzh _ _ e)
        tab := htab
        t81 := hR.t81
        loc := ⟨⟨_, X.toInCall.ns, fun z v hz hk => by
            obtain ⟨u, e, r⟩ := hspec z v hz
            rw [if_pos (show fd.scope.names.lookup z = some .local from hk)] at e
            exact ⟨u, e, r⟩⟩, fun z v hz hk => by
            obtain ⟨u, e, r⟩ := hspec z v hz
            have hz' : z ∈ ps := by
              rcases argm_mem _ _ _ _ _ hz with q | q
              · exact q
              · cases q
            rcases F.par z hz' with q | q
            · have hk' : fd.scope.names.lookup z = some .cell ∨ fd.scope.names.lookup z = some .free := hk
              rw [q] at hk'; rcases hk' with hk' | hk' <;> cases hk'
            · rw [if_neg (by rw [q]; intro q2; cases q2)] at e
              obtain ⟨cc, hcc⟩ := Option.isSome_iff_exists.mp (cellsFrom_some fd.scope.names (s.heap.objs.size + 1) [] z (.inr q))
              obtain ⟨oo, q1, q2⟩ := X.cell z cc hcc
              exact ⟨cc, oo, u, hcc, q1, by rw [q2]; exact congrArg Data.cell e, r⟩⟩
        mus := fun i cl e => by cases e
        t0 := hR.t0
        tT := Nat.le_trans hR.tT htk
        dom := hR.dom
        ixh := fun i d e => let ⟨oo, e'⟩ := hR.ixh i d e; ⟨oo, hkeep _ _ e'⟩
        inj := hR.inj
        ecd := F.cds }
      nx := ⟨⟨h1, tk1, hs1⟩, FM.le_refl _, fun d oo e => hkeep _ _ (hR.fzh _ _ e), fun _ _ e => .inl e, fun d oo _ e => hkeep _ _ e, htab, htk⟩
      le := IX.le_refl _
      n := rfl
      loc0 := high _ (Nat.le_refl _)
      locF := hfz _ (Nat.le_refl _)
      locI := hix _ (Nat.le_refl _)
      cel := fun z d e => by
        have hlt : s.heap.objs.size < d := X.above z d (mem_of_lookup e)
        exact ⟨high d (Nat.le_of_lt hlt), hfz d (Nat.le_of_lt hlt), Nat.ne_of_gt hlt, hix d (Nat.le_of_lt hlt), _, X.cell z d e⟩
      celA := fun z z' d e e' => name_of_addr X.apart (mem_of_lookup e) (mem_of_lookup e')
      celE := fun z e => Option.isSome_iff_exists.mp (cellsFrom_some fd.scope.names (s.heap.objs.size + 1) [] z (.inr e))
      ixn := fun _ _ e => .inl e
      ixk := ⟨Nat.le_refl _, fun _ _ => rfl⟩
      own := fun i cl d e => by cases e
      inj := hR.inj }
    refine hb (A.deeper _) _ s₁ s fz fz j.ix j.ix _ _ ?_ rfl st fun fl s' fz' ix' st' k => ?_
    · refine ⟨hA.1, ?_, ?_⟩
      · have := hA.2.1; rw [hn] at this; show A.depth + 1 + 3 * n' + 10 < recursionLimit; omega
      · have := hA.2.2; rw [hn] at this; show A.units + 3 + 20 * n' + 400 < cLine; omega
    · cases k with
      | ret r => exact h _ _ _ st'.freeze (hf.sound st' (fun i hi d e => by rw [← st'.ixk.2 i hi]; exact e) _ r)
end
end Mine

end
section
open PySem PySem.Calls PySem.W PyProof.Rows
open Sem (wp)
set_option Elab.async false
set_option autoImplicit false
set_option linter.unusedVariables false
set_option maxRecDepth 100000
namespace Mine
theorem slot_object_init : Slot "object" "__init__" "object.__init__" :=
  .of (owner := "object") (n := "__init__") (by rw [typeLookup_type, builtinLookup_eq_fast]; kernel_rfl) (by decide +kernel) (by decide +kernel) (by decide +kernel)
    (by first | exact .inl (by decide +kernel) | exact .inr (by decide +kernel)) (by rw [isSubtype_type]; kernel_rfl)
theorem mro_object : mroOf (.type "object") = pure [.type "object"] := by rw [mroOf_type]; kernel_rfl
theorem lookup_object_new : typeLookup (.type "object") "__new__" = pure (some (.builtin "object.__new__")) := by rw [typeLookup_type, builtinLookup_eq_fast]; kernel_rfl
theorem called_object : TypeCalled "object" "object.__new__" "object.__init__" :=
  ⟨by decide +kernel, by decide +kernel, ⟨_, _, mro_object⟩, madeBy_type mro_object lookup_object_new (by decide +kernel), by decide +kernel, by rw [isSubtype_type]; kernel_rfl, slot_object_init⟩
theorem typeCall_object : checkTypeCall "object" ⟨[], []⟩ = pure () := by kernel_rfl
theorem newCall_object : checkBuiltinCall "object.__new__" ⟨[.type "object"], []⟩ = pure () := by kernel_rfl
theorem entry_object_new : entryFor table "object.__new__" = some Builtin.«object.__new__» := entryFor_of_tree (by kernel_rfl)
theorem args_object_init_1 (a : Value) : argsOk "object.__init__" ⟨[a], []⟩ := by
  unfold argsOk; rw [signature?_of (id := "object.__init__") (n := ['_', '_', 't', 'i', 'n', 'i', '_', '_']) (o := ['t', 'c', 'e', 'j', 'b', 'o']) (by kernel_rfl) PySem.F.owner_object]; kernel_rfl
theorem object_new_meets : Meets (Builtin.«object.__new__» ⟨[.type "object"], []⟩) (fun _ R s => R (.ok (.ret (.ref s.heap.objs.size))) { s with heap := s.heap.push objO }) := by
  intro prog w A R s hs
  have h1 := called_object.made
  repeat (any_goals (first | assumption | wp_step))
theorem call_object {prog : Program} {w : World} {A : Around} {E : Value → Shared → Prop} {s : Shared} {Q : Value → Shared → Prop} (h : Q (.ref s.heap.objs.size) { s with heap := s.heap.push objO }) : wpAny (model prog w) A (call (.type "object") []) Q E s := by
  refine callType_meets called_object typeCall_object newCall_object entry_object_new PySem.F.entry_object_init object_new_meets (Q₁ := fun obj s1 => s1.TypeIs obj "object" ∧ Q obj s1) ⟨⟨_, Heap.get?_push_size _ rfl, rfl⟩, h⟩ fun obj s1 hq => ⟨hq.1, args_object_init_1 _, fun _ R s => R (.ok (.ret .none)) s, ?_, rfl, hq.2⟩
  refine Meets.of_wp fun prog w A R s hs => ?_
  exact wpAny_pure ⟨_, rfl, hs⟩
end Mine

end
section
open PySem PySem.Calls PySem.W PyProof.Rows
set_option Elab.async false
set_option autoImplicit false
set_option linter.unusedVariables false
set_option maxRecDepth 100000
namespace Mine

section
variable {c : C} {j : J} {b : Bool} {n : Nat} {sc : Scope} {σ σ' σ₁ : Sg} {f : Fl}

/-- a function of the program, by its name -/
theorem EvS.callo {g : Str} {fp pos : Pos} {a : Addr} {es : List PySem.Expr} {l : List V} {x : V} {o : Obj} {fd : FuncData} (hg : Glob c.K g (.ref a)) (hk : j.sc.names.lookup g = some .globalImplicit) (hd : (g == ("__debug__" : Str)) = false) (ho : c.h₀.get? a = some o) (hf : o.data = .func fd)
    (hs : es.all noStar = true) (ha : EvL c j (fun env => spliced (backTo pos (starEach es env))) l) (hop : OpN c j (fun vs => call (.ref a) vs) l x) : EvS c j (eval (.Call (.Name g fp) es [] pos)) x := .mk fun A env s fz Q E hA he hR h => by
  show wpAny c.M A (do callWith pos (← eval (.Name g fp) env) [] (backTo pos (starEach es env)) []) Q E s
  refine wpAny_bind (wp_glob (j := j) hg hk hd he hR ?_)
  have hplain : ((backTo pos (starEach es env)).any (·.1) || ([] : List (Option Str × Sem Value)).any (·.1.isNone)) = false := by
    rw [List.any_nil, Bool.or_false]; exact any_noStar hs
  refine callWith_of (P := fun hh => hh.get? a = some o) (first := []) hplain (fun hh hP => ⟨.frame, .inl rfl, ?_⟩) ?_
  · refine Looks.andThen (Looks.ld hP) ?_
    rw [hf]; exact Looks.now
  · refine wp_evalArgs hs ?_
    refine ha A env s fz _ _ hA he hR fun vs s1 fz1 n1 rs => ?_
    have hR1 := hR.next n1
    refine ⟨hR1.st _ _ ho, ?_⟩
    exact hop A env s1 fz1 vs _ _ hA hR1 rs fun v s2 fz2 n2 r2 => h _ _ _ (n1.trans n2) r2

/-- y = object() -/
theorem ExS.assignObj {y : Str} {p gp cp pos : Pos} (hg : Glob c.K "object" (.type "object")) (hk : sc.names.lookup ("object" : Str) = some .globalImplicit) (hs : Stor sc y) :
    ExS c b n sc (exec (.Assign [.Name y p] (.Call (.Name "object" gp) [] [] cp) pos)) σ .next ((σ.new .obj).set y (.ml σ.N)) := .mk fun A env s s₀ fz fz₀ ix ix₀ Q E hA he st h => by
  refine wpAny_Assign_Name ?_ rfl
  show wpAny c.M A (do callWith cp (← eval (.Name "object" gp) env) [] (backTo cp (starEach [] env)) []) _ E s
  refine wpAny_bind (wp_glob (j := ⟨b, n, sc, σ.m, σ.mu, ix⟩) hg hk (by decide) he st.rd ?_)
  refine PySem.callWith_type (first := []) rfl ?_
  refine wp_evalArgs (es := []) rfl ?_
  refine wpAny_pure ?_
  refine call_object ?_
  have st2 := st.newOwn objO .obj rfl (Nat.le_refl _) (Heap.get?_push_size _ rfl)
  refine wp_store hs he st2 (.ml ?_) fun s' st' => h _ _ _ _ st' .next
  rw [← st.n]; exact IX.put_self _ _

/-- a, b, c = x, y, [..] -/
theorem ExS.assign3 {elts : List PySem.Expr} {y1 y2 y3 : Str} {e1 e2 : PySem.Expr} {es : List PySem.Expr} {k k' : Nat} {tp vp lp pos : Pos} {x1 x2 : V} {l : List V} (hk : ∀ y ∈ [y1, y2, y3], Stor sc y) (h1 : EvJ c b n sc σ (eval e1) x1) (h2 : EvJ c b n sc σ (eval e2) x2)
    (h3 : EvLJ c b n sc σ (fun env => spliced (backTo lp (starEach es env))) l) (hl : l.length ≤ sizeLine) (hs1 : noStar e1 = true) (hs2 : noStar e2 = true)
    (hs : ∀ env : Env, swapsWithSole [.Tuple elts k tp] (.Tuple [e1, e2, .List es lp] k' vp) pos.line env = pure false) (hw : ∀ env : Env, env.scope = sc → swappedStores [.Tuple elts k tp] (.Tuple [e1, e2, .List es lp] k' vp) env = pure (some [y1, y2, y3])) :
    ExS c b n sc (exec (.Assign [.Tuple elts k tp] (.Tuple [e1, e2, .List es lp] k' vp) pos)) σ .next ((((σ.new (.list l)).set y3 (.ml σ.N)).set y2 x2).set y1 x1) := .mk fun A env s s₀ fz fz₀ ix ix₀ Q E hA he st h => by
  refine Assign_Tuple_swapped ?_ (hs env) (hw env he)
  refine Tuple_ ?_
  rw [starEach_cons hs1, starEach_cons hs2, starEach_cons (e := .List es lp) rfl]
  have one : ∀ (t : Sem Value) (r : List (Bool × Sem Value)) (Q' : List Value → Shared → Prop) (s' : Shared), wpAny c.M A t (fun v s1 => wpAny c.M A (spliced (backTo vp r)) (fun vs s2 => Q' (v :: vs) s2) E s1) E s' → wpAny c.M A (spliced (backTo vp ((false, t) :: r))) Q' E s' := fun t r Q' s' hh => by
    show wpAny c.M A (do
      let v ← t
      let here ← pure [v]
      return here ++ (← holding here (spliced (backTo vp r)))) Q' E s'
    refine wpAny_bind (wpAny_mono hh (fun v s1 h1 => ?_) fun _ _ e => e)
    refine wpAny_bind (wpAny_pure (wpAny_bind (wpAny_holding (wpAny_mono h1 (fun vs s2 h2 => wpAny_pure h2) fun _ _ e => e))))
  refine one _ _ _ _ (h1.run hA he st fun v1 s1 fz1 st1 n1 r1 => ?_)
  refine one _ _ _ _ (h2.run hA he st1 fun v2 s2 fz2 st2 n2 r2 => ?_)
  refine one _ _ _ _ (List_ (h3.run hA he st2 fun vs s3 fz3 st3 n3 rs => ?_))
  have hc : CellOk fz3 ix (s3.heap.push (listO vs.toArray 0)) s3.heap.objs.size (.list l) := ⟨hl, vs.toArray, 0, Heap.get?_push_size _ rfl, by simpa using rs⟩
  have st4 := st3.newOwn (listO vs.toArray 0) (.list l) rfl (Nat.le_refl _) hc
  refine wpAny_newObj_type ?_ (by show vs.toArray.size ≤ sizeLine; rw [List.size_toArray, rs.1]; exact hl)
  refine wpAny_pure ?_
  have hix : ix.le (ix.put s3.heap.objs.size) := ix.le_put st3.rd.dom _
  have rl : Rs fz3 (ix.put s3.heap.objs.size) [v1, v2, .ref s3.heap.objs.size] [x1, x2, .ml σ.N] :=
    Rs.cons (((r1.up n2.le).up n3.le).mono (FM.le_refl _) hix) (Rs.cons ((r2.up n3.le).mono (FM.le_refl _) hix) (Rs.cons (.ml (by rw [← st3.n]; exact IX.put_self _ _)) Rs.nil))
  obtain ⟨n5, r5⟩ := Nx.newTup (b := b) st4.rd rl
  have st5 := st4.next n5
  refine wpAny_newObj_type ?_ (by show (3 : Nat) ≤ sizeLine; rw [sizeLine_eq]; decide)
  obtain ⟨ad, ws, e, ht, rs5⟩ := st5.tup r5
  cases e
  have hlen := rs5.1
  have h3' : [y1, y2, y3].length = ws.toArray.size := by rw [List.size_toArray, hlen]; rfl
  rw [h3']
  refine unpackItems_tuple hA.1 ht fun h' hx => ?_
  obtain ⟨w1, w2, w3, rfl, q1, q2, q3⟩ := rs5.three
  exact wp_setAll he (Setters.bind [y3, y2, y1]) [w3, w2, w1] [.ml σ.N, x2, x1] _ _ _ (fun y hy => hk y (by simp at hy ⊢; rcases hy with h | h | h <;> simp [h])) (st5.ext hx) (Rs.cons q3 (Rs.cons q2 (Rs.cons q1 Rs.nil))) rfl fun s' st' => h _ _ _ _ st' .next
end
end Mine

end
section
open PySem PySem.Calls PySem.W PyProof.Rows
open Sem (wp)

set_option Elab.async false
set_option autoImplicit false
set_option linter.unusedVariables false
set_option maxRecDepth 100000
namespace Mine
theorem extend_any (l : Addr) (items : Array Value) (n : Nat) (b : Addr) (items2 : Array Value) (n2 : Nat) (dd : Option Addr) (sl : Array (Option Value)) (hc0 : ¬(!items.isEmpty && Builtin.List.listTooLong (items.size + items2.size)) = true) (hc1 : items.size ≤ sizeLine) (hs2 : items.size + items2.size ≤ sizeLine + 1) :
    Meets (Builtin.«list.extend» ⟨[.ref l, .ref b], []⟩) (fun _ R s => s.heap.get? l = some { cls := .type "list", dict := none, data := .seq items n, slots := #[] } ∧ s.heap.get? b = some { cls := .type "list", dict := dd, data := .seq items2 n2, slots := sl } ∧ R (.ok (.ret Value.none)) { s with heap := s.heap.update l (Obj.mapSeq fun x => x ++ items2), toks := s.toks }) :=
  .of_wp fun prog w A R s h => by
    obtain ⟨hp, g, d, tk, os⟩ := s; obtain ⟨hl, hb, h⟩ := h; have f1 := AutoSeq1.idx_int; have f2 := AutoSeq1.sub_tuple_tuple; have f3 := AutoSeq1.sub_list_list; have f4 := AutoSeq1.sub_tuple_list; have f5 := AutoSeq1.sub_list_tuple;
    have hz' : (items ++ items2).size ≤ sizeLine + 1 := by rw [Array.size_append]; exact hs2
    wp_walk using (wpAny_updateSeq hl rfl (hz := hc1) (_hz' := hz')), AutoSeq1.wpAny_loadPart' hl, AutoSeq1.wpAny_loadPart' hb; exact ⟨_, rfl, h⟩
end Mine

end
section
open PySem PySem.Calls PySem.W PyProof.Rows
set_option Elab.async false
set_option autoImplicit false
set_option linter.unusedVariables false
set_option maxRecDepth 100000
namespace Mine

section
variable {c : C} {j : J} {b : Bool} {n : Nat} {sc : Scope} {σ σ' σ₁ : Sg} {f : Fl}

theorem EvS.fstr3 {x y : Str} {k1 k2 : Nat} {p1 p2 p3 pos : Pos} {e : PySem.Expr} {l : List Nat} (hv : EvS c j (eval e) (.str l)) (hsz : (x.cps.toList ++ l ++ y.cps.toList).length ≤ sizeLine) :
    EvS c j (eval (.JoinedStr [.Constant (.str x) k1 p1, .FormattedValue e (-1) none p2, .Constant (.str y) k2 p3] pos)) (.str (x.cps.toList ++ l ++ y.cps.toList)) := .mk fun A env s fz Q E hA he hR h => by
  refine wpAny_JoinedStr ?_
  have hl1 : x.cps.toList.length ≤ sizeLine := by rw [List.length_append, List.length_append] at hsz; omega
  have e0 : Str.empty ++ x = x := by show (⟨#[] ++ x.cps⟩ : Str) = x; simp
  have lx : x.length = x.cps.toList.length := (Array.length_toList ..).symm
  have ly : y.length = y.cps.toList.length := (Array.length_toList ..).symm
  have ll : (mkStr' l).length = l.length := List.size_toArray ..
  have la : ∀ u v : Str, (u ++ v).length = u.length + v.length := fun u v => strLen_append u v
  rw [List.length_append, List.length_append] at hsz
  show wpAny _ A (eval (.Constant (.str x) k1 p1) env) _ E s
  refine wpAny_Constant_str ⟨x, s.toks, rfl, by rw [e0, lx]; exact hl1, ?_⟩
  rw [e0]
  show wpAny _ A (eval (.FormattedValue e (-1) none p2) env) _ E _
  have n1 := Nx.toks (b := j.b) hR (s.toks + 1) (Nat.le_succ _)
  refine wpAny_FormattedValue_plain (hv A env _ fz _ _ hA he (hR.next n1) fun v s2 fz2 n2 r2 => ?_)
  obtain ⟨t, rfl, hl⟩ := str_len r2
  have tail : ∀ (t' : Tok) (s3 : Shared) , Nx j.b s fz s3 fz2 → Rd c.h₀ fz2 j.ix env s3 j.m j.mu → ∃ z t, Value.str (mkStr' l) t' = .str z t ∧ (x ++ z).length ≤ sizeLine ∧ Joins c.M A E (evalEach [.Constant (.str y) k2 p3] env) (x ++ z) (fun out s₁ => out.length ≤ sizeLine ∧ Q (.str out s₁.toks) { s₁ with toks := s₁.toks + 1 }) s3 := fun t' s3 n3 hR3 => by
    refine ⟨mkStr' l, t', rfl, by rw [la, lx, ll]; omega, ?_⟩
    show wpAny _ A (eval (.Constant (.str y) k2 p3) env) _ E s3
    refine wpAny_Constant_str ⟨y, s3.toks, rfl, by rw [la, la, lx, ll, ly]; omega, ?_⟩
    refine ⟨by rw [la, la, lx, ll, ly]; omega, ?_⟩
    have e1 : x ++ mkStr' l ++ y = ⟨(x.cps.toList ++ l ++ y.cps.toList).toArray⟩ := by
      show (⟨x.cps ++ l.toArray ++ y.cps⟩ : Str) = _
      simp
    rw [e1]
    refine h _ _ _ (n3.trans (Nx.toks (b := j.b) hR3 (s3.toks + 1 + 1) (by omega))) (.str _ _ ?_)
    rw [List.length_append, List.length_append]; omega
  have n12 := n1.trans n2
  have hR2 := (hR.next n1).next n2
  refine wpAny_formatField_str (x := mkStr' l) (tail _ _ n12 hR2) (tail _ _ (n12.trans (Nx.toks (b := j.b) hR2 (s2.toks + 1) (Nat.le_succ _))) (hR2.next (Nx.toks (b := j.b) hR2 (s2.toks + 1) (Nat.le_succ _)))) (by rw [ll]; exact hl)

theorem wp_setneg {prog : Program} {w : World} {A : Around} {E : Value → Shared → Prop} {s : Shared} {l : Addr} {items : Array Value} {ne : Nat} {t : Tok} {v : Value} {Q : Unit → Shared → Prop} (ho : s.heap.get? l = some (listO items ne)) (hn : 0 < items.size)
    (hQ : ∀ h', h'.PlainList l (items.setIfInBounds (items.size - 1) v) → Heap.SameBut l s.heap h' → Q () { s with heap := h' }) : wpAny (model prog w) A (setItem (.ref l) (.int (-1) t) v) Q E s := by
  have hl : s.heap.IsList l items := ⟨_, ho, rfl, ne, rfl⟩
  unfold setItem
  try with_reducible refine wpAny_holding ?_
  first | refine wpAny_bind (wpAny_pure ?_) | skip
  refine wpAny_bind (wpAny_sequenceKey hl.typeIs (by decide) ?_)
  refine wpAny_bind (wpAny_callSpecial?_slot (name := Str.ofString "__setitem__") hl.typeIs slot_list_setitem
    (wpAny_call_entry slot_list_setitem hl.typeIs entry_list_setitem ?_ (args_list_setitem _ _ _)))
  show wpAny _ _ (Builtin.List.listSubscript? (.int (-1) t) >>= _) _ _ s
  refine wpAny_bind (wpAny_listSubscript_int (by decide) ?_)
  have hidx := seqIndex_neg (k := -1) (n := items.size) (by decide) (by omega)
  have hx : items[items.size - 1]? = some items[items.size - 1] := Array.getElem?_eq_getElem (by omega)
  show wpAny _ _ ((Builtin.List.listItems (.ref l) >>= fun xs => pure ((seqIndex? (Int.negSucc 0) xs.size).bind fun i => xs[i]?.map (i, ·))) >>= _) _ _ s
  refine wpAny_bind (wpAny_bind ?_)
  show wpAny _ _ (seqItems? (.ref l) >>= _) _ _ s
  refine wpAny_bind (wpAny_seqItems ho rfl (wpAny_pure (wpAny_pure ?_)))
  have e : (-1 + (items.size : Int)).toNat = items.size - 1 := by omega
  have hidx' : seqIndex? (Int.negSucc 0) items.size = some (items.size - 1) := by rw [← e]; exact hidx
  rw [hidx']
  simp only [Option.bind_some, hx, Option.map_some]
  refine wpAny_bind (wpAny_setSeqItemAt ho rfl ?_)
  refine wpAny_pure ⟨.none, rfl, wpAny_pure (hQ _ ⟨_, (Heap.get?_update_self _ ho rfl).trans rfl⟩ (Heap.SameBut.update ..))⟩

noncomputable def setLast (l : List V) (x : V) : List V := l.set (l.length - 1) x
theorem setLast_length (l : List V) (x : V) : (setLast l x).length = l.length := by unfold setLast; simp
theorem lasted {s₀ s : Shared} {fz₀ fz : FM} {ix₀ ix : IX} {env : Env} (st : St c b s₀ fz₀ ix₀ fz ix env s σ) {i : Nat} {a : Addr} {l : List V} {x : V} {vs : Array Value} {u : Value} (hi : σ.mu i = some (.list l)) (ha : ix i = some a) (hs : l.length ≤ sizeLine)
    (rs : Rs fz ix vs.toList l) (r : R fz ix u x) {h' : Heap} (hp : h'.PlainList a (vs.setIfInBounds (vs.size - 1) u)) (sb : Heap.SameBut a s.heap h') : St c b s₀ fz₀ ix₀ fz ix env { s with heap := h' } (σ.put i (setLast l x)) := by
  obtain ⟨k, hp⟩ := hp
  refine st.setOwn hi ha (by rw [setLast_length]; exact hs) hp ?_ sb
  rw [Array.toList_setIfInBounds]
  have e : vs.size - 1 = l.length - 1 := by have := rs.1; rw [Array.length_toList] at this; omega
  rw [e]
  exact rs.set _ r

/-- y[-1] = e -/
theorem ExS.setLast {y : Str} {yp cp p pos up : Pos} {k : Nat} {e : PySem.Expr} {i : Nat} {l : List V} {x : V} (hk : Stor sc y) (hd : (y == ("__debug__" : Str)) = false) (hcd : (y == ("__classdict__" : Str)) = false) (hm : σ.m y = some (.ml i)) (hi : σ.mu i = some (.list l)) (hne : l ≠ [])
    (hv : EvJ c b n sc σ (eval e) x) (hs : ∀ env : Env, swapsWith e (some (.Subscript (.Name y yp) (.UnaryOp .USub (.Constant (.int 1) k cp) up) p)) pos.line env = pure false) :
    ExS c b n sc (exec (.Assign [.Subscript (.Name y yp) (.UnaryOp .USub (.Constant (.int 1) k cp) up) p] e pos)) σ .next (σ.put i (Mine.setLast l x)) := .mk fun A env s s₀ fz fz₀ ix ix₀ Q E hA he st h => by
  refine wpAny_Assign_Subscript (hv.run hA he st fun v s1 fz1 st1 n1 r1 => ?_) (hs env)
  refine wpAny_Name (wp_load hk he hcd st1.rd hm fun u r => ?_) hd
  have hi1 : EvJ c b n sc σ (eval (.UnaryOp .USub (.Constant (.int 1) k cp) up)) (.int (-1)) := fun ix hN => EvS.unary EvS.cint Op1.neg_int
  refine hi1.run hA he st1 fun w s2 fz2 st2 n2 r2 => ?_
  obtain ⟨_, rfl⟩ := r2.inv
  obtain ⟨a, vs, kk, rfl, ha, ho, rs, hl⟩ := own_at st2 hi (r.up n2.le)
  have hsz : vs.size = l.length := by have := rs.1; rw [Array.length_toList] at this; exact this
  have hpos : 0 < l.length := List.length_pos_iff.mpr hne
  exact wp_setneg ho (by omega) fun h' hp sb => h _ _ _ _ (lasted st2 hi ha hl rs (r1.up n2.le) hp sb) .next

/-- y[-1] += e -/
theorem ExS.augLast {y : Str} {yp cp tp pos up : Pos} {k : Nat} {op : Operator} {e : PySem.Expr} {i : Nat} {l : List V} {a v x : V} (hk : Stor sc y) (hd : (y == ("__debug__" : Str)) = false) (hcd : (y == ("__classdict__" : Str)) = false) (hm : σ.m y = some (.ml i)) (hi : σ.mu i = some (.list l))
    (ha : l[l.length - 1]? = some a) (hv : EvJ c b n sc σ (eval e) v) (ho : ∀ ix : IX, ix.N = σ.N → Op2 c ⟨b, n, sc, σ.m, σ.mu, ix⟩ (inplaceOp op) a v x) :
    ExS c b n sc (exec (.AugAssign (.Subscript (.Name y yp) (.UnaryOp .USub (.Constant (.int 1) k cp) up) tp) op e pos)) σ .next (σ.put i (Mine.setLast l x)) := .mk fun A env s s₀ fz fz₀ ix ix₀ Q E hA he st h => by
  have hne : l ≠ [] := by rintro rfl; simp at ha
  have hpos : 0 < l.length := List.length_pos_iff.mpr hne
  refine wpAny_AugAssign_SubscriptAny ?_
  refine wpAny_Name (wp_load hk he hcd st.rd hm fun u r => ?_) hd
  have hi1 : EvJ c b n sc σ (eval (.UnaryOp .USub (.Constant (.int 1) k cp) up)) (.int (-1)) := fun ix hN => EvS.unary EvS.cint Op1.neg_int
  refine hi1.run hA he st fun w s2 fz2 st2 n2 r2 => ?_
  have hidx : seqIndex? (-1) l.length = some (l.length - 1) := by
    have := seqIndex_neg (k := -1) (n := l.length) (by decide) (by omega)
    rw [this]; congr 1; omega
  have hasl : asL σ.mu (.ml i) = some l := by simp [asL, hi]
  refine Op2.item_list (c := c) (j := ⟨b, n, sc, σ.m, σ.mu, ix⟩) hasl hidx ha (by decide) A env s2 fz2 u w _ _ hA st2.rd (r.up n2.le) r2 fun w3 s3 fz3 n3 r3 => ?_
  have st3 := st2.next n3
  refine hv.run hA he st3 fun w4 s4 fz4 st4 n4 r4 => ?_
  refine ho ix st4.n A env s4 fz4 w3 w4 _ _ hA st4.rd (r3.up n4.le) r4 fun w5 s5 fz5 n5 r5 => ?_
  have st5 := st4.next n5
  obtain ⟨_, rfl⟩ := r2.inv
  obtain ⟨ad, vs, kk, rfl, had, ho5, rs, hl⟩ := own_at st5 hi ((((r.up n2.le).up n3.le).up n4.le).up n5.le)
  have hsz : vs.size = l.length := by have := rs.1; rw [Array.length_toList] at this; exact this
  exact wp_setneg ho5 (by omega) fun h' hp sb => h _ _ _ _ (lasted st5 hi had hl rs r5 hp sb) .next

/-- y.extend(e) -/
theorem ExS.extendM {y : Str} {yp ap pos p2 : Pos} {e : PySem.Expr} {i : Nat} {l l2 : List V} (hk : Stor sc y) (hd : (y == ("__debug__" : Str)) = false) (hcd : (y == ("__classdict__" : Str)) = false) (hline : (ap.endLine == pos.line) = true) (hm : σ.m y = some (.ml i)) (hi : σ.mu i = some (.list l)) (hs : l.length + l2.length ≤ 1000000) (hstar : noStar e = true)
    (hv : EvJ c b n sc σ (eval e) (.lst l2)) : ExS c b n sc (exec (.Expr (.Call (.Attribute (.Name y yp) "extend" ap) [e] [] pos) p2)) σ .next (σ.put i (l ++ l2)) := .mk fun A env s s₀ fz fz₀ ix ix₀ Q E hA he st h => by
  refine wpAny_Expr ?_ st.kind rfl
  refine wpAny_Call_method (T := "list") (id := "list.extend") rfl ?_ hline PySem.F.plainAttrs_list PySem.F.slot_list_extend PySem.F.type_list_extend ?_
  · rw [all_noStar (by simp [hstar])]
    simp [show ∀ p env, backToKw p (keywordEach [] env) = [] from fun _ _ => rfl]
  · refine wpAny_Name (wp_load hk he hcd st.rd hm fun u r => ?_) hd
    obtain ⟨a, vs, k, rfl, ha, ho, rs, hl⟩ := own_at st hi r
    refine ⟨⟨_, ho, rfl⟩, fun ad q => ?_, ?_⟩
    · cases q; exact ⟨_, ho, rfl⟩
    · refine callWith_builtin (first := [.ref a]) (any_noStar (by simp [hstar])) (wp_evalArgs (by simp [hstar]) ?_)
      have hv' : EvLJ c b n sc σ (fun env => spliced (backTo pos (starEach [e] env))) [.lst l2] := fun ix hN => EvL.cons hstar (hv ix hN) EvL.nil
      refine hv'.run hA he st fun ws s1 fz1 st1 n1 rw => ?_
      obtain ⟨w, rfl, rw'⟩ := rw.one
      obtain ⟨a2, vs1, k1, q, ha1, ho1, rs1, _⟩ := own_at st1 hi (r.up n1.le)
      cases q
      cases rw' with
      | lst h0 h1 h2 h3 h4 h5 =>
        rename_i d o vs2 n2
        have hsz : vs1.size = l.length := by have := rs1.1; rw [Array.length_toList] at this; exact this
        have hsz2 : vs2.size = l2.length := by rw [Array.length_toList] at h4; exact h4
        have ho2 := st1.rd.fzh _ _ h1
        obtain ⟨cl, dd, dt, sl⟩ := o
        cases h2
        cases h3
        have hne : ¬ (!vs1.isEmpty && Builtin.List.listTooLong (vs1.size + vs2.size)) = true := by
          intro q
          simp only [Bool.and_eq_true] at q
          have q2 : decide (vs1.size + vs2.size > sizeLine) = true := q.2
          rw [sizeLine_eq] at q2
          have := of_decide_eq_true q2
          omega
        refine call_meets PySem.F.slot_list_extend ⟨_, ho1, rfl⟩ PySem.F.entry_list_extend (PySem.F.args_list_extend_2 _ _) (extend_any a vs1 k1 d vs2 n2 dd sl hne (by rw [sizeLine_eq]; omega) (by rw [sizeLine_eq]; omega)) ⟨ho1, ho2, ?_⟩
        have hp : (s1.heap.update a (Obj.mapSeq fun x => x ++ vs2)).get? a = some (listO (vs1 ++ vs2) (Obj.mapSeq (fun x => x ++ vs2) (listO vs1 k1) |>.data |> fun | .seq _ e => e | _ => 0)) := (Heap.get?_update_self _ ho1 rfl).trans rfl
        have st2 := st1.setOwn (l' := l ++ l2) hi ha (by rw [List.length_append, sizeLine_eq]; omega) hp (by rw [Array.toList_append]; exact rs1.append ⟨h4, h5⟩) (Heap.SameBut.update ..)
        exact h _ _ _ _ st2 .next
end
end Mine

end
section
open PySem PySem.Calls PySem.W PyProof.Rows
set_option Elab.async false
set_option autoImplicit false
set_option linter.unusedVariables false
set_option maxRecDepth 100000
namespace Mine

noncomputable def isFlat : V → Bool
  | .non => true
  | .bool _ => true
  | .int _ => true
  | .str _ => true
  | _ => false
noncomputable def dec : Value → V
  | .none => .non
  | .bool x => .bool x
  | .int i _ => .int i
  | .str s _ => .str (txt s)
  | _ => .non
theorem dec_of {fz : FM} {ix : IX} {v : Value} {x : V} (r : R fz ix v x) (h : isFlat x = true) : dec v = x := by
  cases r <;> first | rfl | cases h
theorem flat_any {fz fz' : FM} {ix ix' : IX} {v : Value} {x : V} (r : R fz ix v x) (h : isFlat x = true) : R fz' ix' v x := by
  cases r with
  | non => exact .non
  | bool x => exact .bool x
  | int i t => exact .int i t
  | str l t hl => exact .str l t hl
  | _ => cases h
/-- stands for a flat value, in any state -/
noncomputable def Fl0 (v : Value) (x : V) : Prop := ∀ fz ix, R fz ix v x

noncomputable def relS (scope sc : Scope) : Scope := { scope with names := scope.names.map fun (n, k) => if (k == NameKind.free && sc.kind == ScopeKind.function && sc.names.lookup n == some NameKind.cell) then (n, NameKind.cell) else (n, k) }
noncomputable def CloF (env : Env) (f : Str × NameKind → List (Str × Addr) → Sem (ForInStep (List (Str × Addr)))) : Prop := ∀ z k cs, f (z, k) cs = if (k == NameKind.free) = true then (do let a ← cellOf env z; pure (ForInStep.yield ((z, a) :: cs))) else pure (ForInStep.yield cs)
theorem closure_ok {env : Env} : ∀ (names : List (Str × NameKind)) (acc : List (Str × Addr)),
    (∀ y, (y, NameKind.free) ∈ names → ∃ a, env.cells.lookup y = some a) → (∀ y a, acc.lookup y = some a → env.cells.lookup y = some a) →
    ∃ cl, (∀ f, CloF env f → forIn names acc f = (pure cl : Sem _)) ∧
      (∀ y a, cl.lookup y = some a → env.cells.lookup y = some a) ∧ (∀ y, (y, NameKind.free) ∈ names ∨ (acc.lookup y).isSome = true → cl.lookup y = env.cells.lookup y)
  | [], acc, hf, ha => ⟨acc, fun f _ => rfl, ha, fun y h => by
      rcases h with h | h
      · cases h
      · obtain ⟨a, e⟩ := Option.isSome_iff_exists.mp h; rw [e, ha y a e]⟩
  | (z, k) :: r, acc, hf, ha => by
    by_cases hk : (k == NameKind.free) = true
    · have hk' : k = NameKind.free := by cases k <;> first | rfl | cases hk
      subst hk'
      obtain ⟨a, e⟩ := hf z (List.mem_cons_self ..)
      obtain ⟨cl, c1, c2, c3⟩ := closure_ok r ((z, a) :: acc) (fun y hy => hf y (List.mem_cons_of_mem _ hy)) (fun y a' h => by
        rw [List.lookup_cons] at h
        cases hb : y == z with
        | true => rw [hb] at h; cases h; rw [beq_iff_eq.mp hb]; exact e
        | false => rw [hb] at h; exact ha y a' h)
      refine ⟨cl, fun f hF => ?_, c2, fun y h => c3 y ?_⟩
      · rw [List.forIn_cons]
        have : cellOf env z = pure a := by unfold cellOf; rw [e]
        rw [hF, if_pos hk, this]; exact c1 f hF
      · rcases h with h | h
        · rcases List.mem_cons.mp h with h | h
          · cases h; right; simp [List.lookup_cons]
          · exact .inl h
        · right
          rw [List.lookup_cons]
          cases hb : y == z with
          | true => rfl
          | false => exact h
    · obtain ⟨cl, c1, c2, c3⟩ := closure_ok r acc (fun y hy => hf y (List.mem_cons_of_mem _ hy)) ha
      refine ⟨cl, fun f hF => ?_, c2, fun y h => c3 y ?_⟩
      · rw [List.forIn_cons, hF, if_neg hk]; exact c1 f hF
      · rcases h with h | h
        · rcases List.mem_cons.mp h with h | h
          · cases h; exact absurd rfl hk
          · exact .inl h
        · exact .inr h
theorem closureFor_ok {env : Env} {scope : Scope} (hf : ∀ y, (y, NameKind.free) ∈ scope.names → ∃ a, env.cells.lookup y = some a) :
    ∃ cl, closureFor scope env = pure cl ∧ (∀ y a, cl.lookup y = some a → env.cells.lookup y = some a) ∧ (∀ y, (y, NameKind.free) ∈ scope.names → cl.lookup y = env.cells.lookup y) := by
  obtain ⟨cl, c1, c2, c3⟩ := closure_ok (env := env) scope.names [] hf (fun y a h => by cases h)
  refine ⟨cl, ?_, c2, fun y h => c3 y (.inl h)⟩
  unfold closureFor
  dsimp only
  rw [c1 _ (fun z k cs => rfl)]
  rfl

noncomputable def compM (m : Loc) (scope : Scope) (x : Str) (item : V) : Loc := fun y => if y = x then some item else if (y, NameKind.free) ∈ scope.names then m y else none
/-- what must hold of a comprehension's scope -/
structure CompOk (scope sc : Scope) (m : Loc) (x : Str) : Prop where
  cell : ∀ y ∈ scope.names, y.2 ≠ .cell
  kind : scope.kind = .function
  names : ∀ y ∈ scope.names, y.2 = .local → scope.names.lookup y.1 = some .local
  x : scope.names.lookup x = some .local
  st : (relS scope sc).names.lookup ("stuff" : Str) ≠ some .local
  free : ∀ y, (y, NameKind.free) ∈ scope.names → (sc.names.lookup y = some .cell ∨ sc.names.lookup y = some .free) ∧ (m y).isSome = true ∧ ((relS scope sc).names.lookup y = some .cell ∨ (relS scope sc).names.lookup y = some .free)

section
variable {c : C} {j : J} {b : Bool} {n : Nat} {sc : Scope} {σ σ' σ₁ : Sg} {f : Fl}
noncomputable abbrev jC (j : J) (scope : Scope) (x : Str) (item : V) : J := ⟨true, j.n, relS scope j.sc, compM j.m scope x item, j.mu, j.ix⟩

theorem comp_rd {fz : FM} {ix : IX} {env : Env} {s₁ s₃ : Shared} {m : Loc} {mu : MU} {scope : Scope} {cl : List (Str × Addr)} {C : Addr} {x : Str} {v : Value} {item : V} {m₃ : Str → Option Value} (hR : Rd c.h₀ fz ix env s₁ m mu) (ok : CompOk scope env.scope m x)
    (hcl : ∀ y, (y, NameKind.free) ∈ scope.names → cl.lookup y = env.cells.lookup y) (hk : ∀ b o, s₁.heap.get? b = some o → s₃.heap.get? b = some o) (htk : s₁.toks ≤ s₃.toks) (hn : s₃.heap.Ns C m₃) (hx : m₃ x = some v) (r : R fz ix v item) :
    Rd c.h₀ fz ix (compEnvC scope cl C env) s₃ (compM m scope x item) mu where
  ek := ok.kind
  eg := hR.eg
  eb := hR.eb
  base := hR.base
  fzh := fun a o e => hk a o (hR.fzh a o e)
  tab := let ⟨ps, q, e⟩ := hR.tab; ⟨ps, q, hk _ _ e⟩
  t81 := hR.t81
  loc := by
    refine ⟨⟨m₃, hn, fun y w hy hkd => ?_⟩, fun y w hy hkd => ?_⟩
    · unfold compM at hy
      by_cases q : y = x
      · subst q; rw [if_pos rfl] at hy; cases hy; exact ⟨v, hx, r⟩
      · rw [if_neg q] at hy
        split at hy
        · rename_i hf
          have hkd' : (relS scope env.scope).names.lookup y = some .local := hkd
          rcases (ok.free y hf).2.2 with q2 | q2 <;> rw [q2] at hkd' <;> cases hkd'
        · cases hy
    · unfold compM at hy
      by_cases q : y = x
      · subst q
        have h1 : (relabel scope env).names.lookup y = some .local := lookup_relabel_local ok.x
        have hkd' : (relabel scope env).names.lookup y = some .cell ∨ (relabel scope env).names.lookup y = some .free := hkd
        rw [h1] at hkd'
        rcases hkd' with h | h <;> cases h
      · rw [if_neg q] at hy
        split at hy
        · rename_i hf
          obtain ⟨f1, _, _⟩ := ok.free y hf
          obtain ⟨cc, o, u, e1, e2, e3, r'⟩ := hR.loc.cl y w hy f1
          exact ⟨cc, o, u, (hcl y hf).trans e1, hk _ _ e2, e3, r'⟩
        · cases hy
  mus := fun i cl' e => let ⟨a, e1, e2⟩ := hR.mus i cl' e; ⟨a, e1, e2.up (IX.le_refl _) fun o q => hk a o q⟩
  t0 := hR.t0
  tT := Nat.le_trans hR.tT htk
  dom := hR.dom
  ixh := fun i a e => let ⟨o, q⟩ := hR.ixh i a e; ⟨o, hk a o q⟩
  inj := hR.inj
  ecd := fun h => absurd h ok.st

theorem walks_strong {prog : Program} {w : World} {A : Around} {I : Addr} {fp wr : List Addr} {n : Nat} {P : Nat → Value → Prop} {S : Nat → Heap → Prop} (W : Walks prog w A I fp wr n P S) : Walks prog w A I fp wr n (fun i v => P i v ∧ i < n) S where
  sub := W.sub
  frame := W.frame
  item := fun i s Q E hi st hQ => W.item i s Q E hi st fun v h' tk hP => hQ v h' tk ⟨hP, hi⟩
  done := W.done
  self := W.self

/-- the tests of a comprehension -/
noncomputable abbrev testsT (ifs : List PySem.Expr) (env : Env) : Sem Bool := forIn ifs true fun c r => if r = true then do let ok ← isTrue c env (eval c env); pure (ForInStep.yield ok) else pure (ForInStep.yield r)
theorem EvT.noTests : EvT c j (testsT []) true := .mk fun A env s fz Q E hA he hR h => wpAny_pure (h _ _ (Nx.refl hR))
theorem EvT.oneTest {e : PySem.Expr} {x : Bool} (h1 : EvT c j (fun env => isTrue e env (eval e env)) x) : EvT c j (testsT [e]) x := .mk fun A env s fz Q E hA he hR h => by
  show wpAny c.M A (forIn [e] true _) Q E s
  rw [List.forIn_cons, if_pos rfl]
  exact wpAny_bind (wpAny_bind (h1 A env s fz _ _ hA he hR fun s1 fz1 n1 => wpAny_pure (wpAny_pure (h _ _ n1))))

theorem paired_map {g : V → V} : ∀ {vs : List Value} {ys : List Value}, Paired (fun v y => Fl0 y (g (dec v))) vs ys → ∀ fz ix, Rs fz ix ys ((vs.map dec).map g)
  | _, _, .nil, fz, ix => Rs.nil
  | _, _, .cons h t, fz, ix => Rs.cons (h fz ix) (paired_map t fz ix)
theorem map_filter_dec {tst : V → Bool} : ∀ vs : List Value, (vs.filter fun v => tst (dec v)).map dec = (vs.map dec).filter tst
  | [] => rfl
  | v :: vs => by
    have ih := map_filter_dec (tst := tst) vs
    simp only [List.filter_cons, List.map_cons]
    cases h : tst (dec v) with
    | true => simp only [if_true, List.map_cons, ih]
    | false => simp only [Bool.false_eq_true, if_false, ih]

/-- what a comprehension needs and makes -/
structure CompRun (c : C) (j : J) (elt : PySem.Expr) (ifs : List PySem.Expr) (scope : Scope) (x : Str) (l : List V) (tst : V → Bool) (g : V → V) : Prop where
  ok : CompOk scope j.sc j.m x
  flat : ∀ y ∈ l, isFlat y = true
  tests : ∀ y ∈ l, EvT c (jC j scope x y) (testsT ifs) (tst y)
  elt : ∀ y ∈ l, tst y = true → isFlat (g y) = true ∧ EvS c (jC j scope x y) (eval elt) (g y)
  size : l.length ≤ sizeLine

theorem CompRun.quiet {elt : PySem.Expr} {ifs : List PySem.Expr} {scope : Scope} {x : Str} {l : List V} {tst : V → Bool} {g : V → V} (H : CompRun c j elt ifs scope x l tst g) {A : Around} {env : Env} {s₁ s₂ : Shared} {fz : FM} {cl : List (Str × Addr)} {I : Addr} {P : Nat → Value → Prop}
    (hA : Room j.n A) (he : env.scope = j.sc) (hR : Rd c.h₀ fz j.ix env s₁ j.m j.mu) (hcl : ∀ y, (y, NameKind.free) ∈ scope.names → cl.lookup y = env.cells.lookup y) (hI : I = s₁.heap.objs.size) (h12 : ∀ b o, s₁.heap.get? b = some o → s₂.heap.get? b = some o) (ht : s₁.toks ≤ s₂.toks)
    (hP : ∀ i v, P i v → ∃ y, l[i]? = some y ∧ R fz j.ix v y) :
    QuietOnC c.prog c.w A env scope cl x ifs elt [I] P (fun v => tst (dec v)) (fun v y => Fl0 y (g (dec v))) s₂ := by
  have keep : ∀ s₃ : Shared, (∀ b o, b ∉ [I] → s₂.heap.get? b = some o → s₃.heap.get? b = some o) → ∀ b o, s₁.heap.get? b = some o → s₃.heap.get? b = some o := fun s₃ hk b o e => hk b o (by simp; rintro rfl; rw [hI] at e; exact absurd (Heap.lt_size e) (Nat.lt_irrefl _)) (h12 b o e)
  have hok : CompOk scope env.scope j.m x := by rw [he]; exact H.ok
  have hsc : ∀ C : Addr, (compEnvC scope cl C env).scope = relS scope j.sc := fun C => by show relS scope env.scope = _; rw [he]
  constructor
  · intro C i v s₃ m₃ E' _ hPv hn hm hk htk
    obtain ⟨y, hy, r⟩ := hP i v hPv
    have hmem : y ∈ l := List.mem_of_getElem? hy
    have hd : dec v = y := dec_of r (H.flat y hmem)
    refine H.tests y hmem A (compEnvC scope cl C env) s₃ fz _ _ hA (hsc C) (comp_rd hR hok hcl (keep s₃ hk) (Nat.le_trans ht htk) hn hm r) fun s4 fz4 n4 => ?_
    obtain ⟨h4, t4, rfl⟩ := n4.same
    exact ⟨by rw [hd], h4, t4, rfl, fun b o e => n4.kp b o (.inl rfl) e⟩
  · intro C i v s₃ m₃ E' _ hPv hpv hn hm hk htk
    obtain ⟨y, hy, r⟩ := hP i v hPv
    have hmem : y ∈ l := List.mem_of_getElem? hy
    have hd : dec v = y := dec_of r (H.flat y hmem)
    have hpv' : tst y = true := by rw [← hd]; exact hpv
    obtain ⟨h1, h2⟩ := H.elt y hmem hpv'
    refine h2 A (compEnvC scope cl C env) s₃ fz _ _ hA (hsc C) (comp_rd hR hok hcl (keep s₃ hk) (Nat.le_trans ht htk) hn hm r) fun u s4 fz4 n4 r4 => ?_
    obtain ⟨h4, t4, rfl⟩ := n4.same
    exact ⟨fun fz' ix' => by rw [hd]; exact flat_any r4 h1, h4, t4, rfl, fun b o e => n4.kp b o (.inl rfl) e⟩
end
end Mine

end
section
open PySem PySem.Calls PySem.W PyProof.Rows
set_option Elab.async false
set_option autoImplicit false
set_option linter.unusedVariables false
set_option maxRecDepth 100000
namespace Mine

section
variable {c : C} {j : J} {b : Bool} {n : Nat} {sc : Scope} {σ σ' σ₁ : Sg} {f : Fl}

theorem comp_cells {scope : Scope} {x : Str} {fz : FM} {ix : IX} {env : Env} {s : Shared} {m : Loc} {mu : MU} (hR : Rd c.h₀ fz ix env s m mu) (ok : CompOk scope env.scope m x) : ∀ y, (y, NameKind.free) ∈ scope.names → ∃ a, env.cells.lookup y = some a := fun y hf => by
  obtain ⟨f1, f2, _⟩ := ok.free y hf
  obtain ⟨w, hw⟩ := Option.isSome_iff_exists.mp f2
  obtain ⟨cc, _, _, e1, _⟩ := hR.loc.cl y w hw f1
  exact ⟨cc, e1⟩

theorem EvS.comp {elt it : PySem.Expr} {ifs : List PySem.Expr} {scope : Scope} {x : Str} {px pos : Pos} {xv : V} {l : List V} {tst : V → Bool} {g : V → V} (hv : EvS c j (eval it) xv) (hi : Itr xv l) (hs : ∀ (env : Env) u, foldedSetIterable it env u = pure u) (H : CompRun c j elt ifs scope x l tst g) :
    EvS c j (eval (.ListComp elt [⟨.Name x px, it, ifs, 0⟩] scope pos)) (.lst ((l.filter tst).map g)) := .mk fun A env s fz Q E hA he hR h => by
  have hok : CompOk scope env.scope j.m x := by rw [he]; exact H.ok
  obtain ⟨cl, c1, c2, c3⟩ := closureFor_ok (comp_cells hR hok)
  refine wpAny_with_toks (Nat.le_refl s.toks) (wpAny_ListComp_free (fun v => tst (dec v)) (fun v y => Fl0 y (g (dec v))) c1 H.ok.cell H.ok.kind H.ok.names H.ok.x ?_ (hs env))
  refine hv A env s fz _ _ hA he hR fun v s1 fz1 n1 r1 => ?_
  have hR1 := hR.next n1
  refine wp_iter hi (A' := A) hA.1 hR1 r1 fun o fp N P S hof hd => ?_
  have push : ∀ bb oo, s1.heap.get? bb = some oo → (s1.heap.push o).get? bb = some oo := fun _ _ e => Heap.get?_push_of_some _ e
  refine ⟨_, fp, [s1.heap.objs.size], N, _, S, rfl, walks_strong hd.walks, by rw [hd.len]; exact H.size, hd.st, fun bb hb => ?_, ?_, ?_⟩
  · show bb < (s1.heap.push o).objs.size
    rw [Heap.size_push]
    rcases hd.fps bb hb with rfl | ⟨oo, e⟩
    · exact Nat.lt_succ_self _
    · exact Nat.lt_succ_of_lt (Heap.lt_size (hR1.fzh _ _ e))
  · refine H.quiet hA he hR1 c3 rfl push (Nat.le_refl _) fun i u hP => ?_
    have hlt : i < l.length := by rw [← hd.len]; exact hP.2
    exact ⟨l[i], by simp [hlt], hd.val i u _ hP.1 (by simp [hlt])⟩
  · intro D h' tk ys vs hD hl hpl hlen hP hpair hk htk
    have hdec : vs.map dec = l := by
      apply List.ext_getElem?
      intro i
      rw [List.getElem?_map]
      rcases Nat.lt_or_ge i vs.length with q | q
      · rw [List.getElem?_eq_getElem q]
        have hp := hP i vs[i] (by simp [q])
        have hlt : i < l.length := by rw [← hd.len]; exact hp.2
        rw [List.getElem?_eq_getElem hlt]
        exact congrArg some (dec_of (hd.val i vs[i] l[i] hp.1 (by simp [hlt])) (H.flat _ (List.getElem_mem hlt)))
      · rw [List.getElem?_eq_none q, List.getElem?_eq_none (by rw [← hd.len, ← hlen]; exact q)]; rfl
    obtain ⟨k, hpl⟩ := hpl
    have hne1 : ∀ d oo, s1.heap.get? d = some oo → h'.get? d = some oo := fun d oo e => hk d oo (by simp; rintro rfl; exact absurd (Heap.lt_size e) (Nat.lt_irrefl _)) (push d oo e)
    have hD1 : s1.heap.get? D = none := by
      cases e : s1.heap.get? D with
      | none => rfl
      | some oo => have hD' : (s1.heap.push o).get? D = none := hD
                   rw [push _ _ e] at hD'; cases hD'
    have h81 : D ≠ 81 := by rintro rfl; obtain ⟨ps, _, e⟩ := hR1.tab; rw [e] at hD1; cases hD1
    have hD0 : s.heap.get? D = none := by
      cases e : s.heap.get? D with
      | none => rfl
      | some oo => rw [n1.kp D oo (.inr h81) e] at hD1; cases hD1
    have hfD : fz1 D = none := by
      cases e : fz1 D with
      | none => rfl
      | some oo => rw [hR1.fzh _ _ e] at hD1; cases hD1
    have hmap : (vs.filter fun v => tst (dec v)).map dec = l.filter tst := by rw [map_filter_dec, hdec]
    refine h _ { s1 with heap := h', toks := tk } (fz1.put D (listO ys k)) ⟨?_, FM.le_trans n1.le (FM.le_put hfD), ?_, ?_, ?_, ?_, htk⟩ ?_
    · obtain ⟨h1, t1, rfl⟩ := n1.same; exact ⟨h', tk, rfl⟩
    · intro d oo e
      unfold FM.put at e
      by_cases q : d = D
      · subst q; rw [if_pos rfl] at e; cases e; exact hpl
      · rw [if_neg q] at e; exact hne1 _ _ (hR1.fzh _ _ e)
    · intro d oo e
      unfold FM.put at e
      by_cases q : d = D
      · subst q; exact .inr hD0
      · rw [if_neg q] at e; exact n1.ext d oo e
    · intro d oo hb e; exact hne1 _ _ (n1.kp d oo hb e)
    · obtain ⟨ps, q, e⟩ := hR1.tab; exact ⟨ps, q, hne1 _ _ e⟩
    · have rs := paired_map hpair (fz1.put D (listO ys k)) j.ix
      rw [hmap] at rs
      refine .lst ?_ (FM.put_self _ _ _) rfl rfl rs.1 rs.2
      rw [List.length_map]
      exact Nat.le_trans (List.length_filter_le _ _) H.size

/-- y = [.. for x in ..] -/
theorem ExS.assignComp {y : Str} {py pos lp : Pos} {elt it : PySem.Expr} {ifs : List PySem.Expr} {scope : Scope} {x : Str} {px : Pos} {xv : V} {l : List V} {tst : V → Bool} {g : V → V} (hv : EvJ c b n sc σ (eval it) xv) (hi : Itr xv l) (hs : ∀ (env : Env) u, foldedSetIterable it env u = pure u)
    (H : ∀ ix : IX, ix.N = σ.N → CompRun c ⟨b, n, sc, σ.m, σ.mu, ix⟩ elt ifs scope x l tst g) (hy : sc.names.lookup y = some .local)
    (hsw : ∀ env : Env, env.scope = sc → swapsWith (.ListComp elt [⟨.Name x px, it, ifs, 0⟩] scope lp) (some (.Name y py)) pos.line env = pure true) :
    ExS c b n sc (exec (.Assign [.Name y py] (.ListComp elt [⟨.Name x px, it, ifs, 0⟩] scope lp) pos)) σ .next (σ.set y (.lst ((l.filter tst).map g))) := .mk fun A env s s₀ fz fz₀ ix ix₀ Q E hA he st h => by
  have H := H ix st.n
  have hok : CompOk scope env.scope σ.m x := by rw [he]; exact H.ok
  obtain ⟨cl, c1, c2, c3⟩ := closureFor_ok (comp_cells st.rd hok)
  have hkind : env.kindOf y = some .local := by unfold Env.kindOf; rw [he, hy]
  have hp : (env.scope.kind == .class || (env.scope.kind == .module && env.locals != env.globals)) = false := by rw [st.rd.ek]; rfl
  refine wpAny_with_toks (Nat.le_refl s.toks) (wpAny_Assign_ListComp_free (fun v => tst (dec v)) (fun v y => Fl0 y (g (dec v))) (hsw env he) c1 H.ok.cell H.ok.kind H.ok.names H.ok.x hkind hp ?_ (hs env))
  refine hv.run hA he st fun v s1 fz1 st1 n1 r1 => ?_
  have hR1 := st1.rd
  refine wp_iter hi (A' := A) hA.1 hR1 r1 fun o fp N P S hof hd => ?_
  have push : ∀ bb oo, s1.heap.get? bb = some oo → (s1.heap.push o).get? bb = some oo := fun _ _ e => Heap.get?_push_of_some _ e
  obtain ⟨⟨mv, hn, hm⟩, _⟩ := id hR1.loc
  have hLlt : env.locals < s1.heap.objs.size := hn.lt
  refine ⟨_, fp, [s1.heap.objs.size], N, _, S, mv, rfl, walks_strong hd.walks, by rw [hd.len]; exact H.size, hd.st, fun bb hb => ?_, ?_, hn.keeps push, ?_, ?_⟩
  · show bb < (s1.heap.push o).objs.size
    rw [Heap.size_push]
    rcases hd.fps bb hb with rfl | ⟨oo, e⟩
    · exact Nat.lt_succ_self _
    · exact Nat.lt_succ_of_lt (Heap.lt_size (hR1.fzh _ _ e))
  · intro q; rw [List.mem_singleton] at q; rw [q] at hLlt; exact Nat.lt_irrefl _ hLlt
  · refine H.quiet hA he hR1 c3 rfl push (Nat.le_refl _) fun i u hP => ?_
    have hlt : i < l.length := by rw [← hd.len]; exact hP.2
    exact ⟨l[i], by simp [hlt], hd.val i u _ hP.1 (by simp [hlt])⟩
  · intro D h' tk ys vs hD hl hpl hlen hP hpair hns hk htk
    have hdec : vs.map dec = l := by
      apply List.ext_getElem?
      intro i
      rw [List.getElem?_map]
      rcases Nat.lt_or_ge i vs.length with q | q
      · rw [List.getElem?_eq_getElem q]
        have hp := hP i vs[i] (by simp [q])
        have hlt : i < l.length := by rw [← hd.len]; exact hp.2
        rw [List.getElem?_eq_getElem hlt]
        exact congrArg some (dec_of (hd.val i vs[i] l[i] hp.1 (by simp [hlt])) (H.flat _ (List.getElem_mem hlt)))
      · rw [List.getElem?_eq_none q, List.getElem?_eq_none (by rw [← hd.len, ← hlen]; exact q)]; rfl
    obtain ⟨k, hpl⟩ := hpl
    have hne1 : ∀ d oo, d ≠ env.locals → s1.heap.get? d = some oo → h'.get? d = some oo := fun d oo hq e => hk d oo hq (by simp; rintro rfl; exact absurd (Heap.lt_size e) (Nat.lt_irrefl _)) (push d oo e)
    have hD1 : s1.heap.get? D = none := by
      cases e : s1.heap.get? D with
      | none => rfl
      | some oo => have hD' : (s1.heap.push o).get? D = none := hD
                   rw [push _ _ e] at hD'; cases hD'
    have hmap : (vs.filter fun v => tst (dec v)).map dec = l.filter tst := by rw [map_filter_dec, hdec]
    have h81 : D ≠ 81 := by rintro rfl; obtain ⟨ps, _, e⟩ := hR1.tab; rw [e] at hD1; cases hD1
    have hD0 : s.heap.get? D = none := by
      cases e : s.heap.get? D with
      | none => rfl
      | some oo => rw [n1.kp D oo (.inr h81) e] at hD1; cases hD1
    have hfD : fz1 D = none := by
      cases e : fz1 D with
      | none => rfl
      | some oo => rw [hR1.fzh _ _ e] at hD1; cases hD1
    obtain ⟨oL, es, ep, hoL, hdL, hrest⟩ := id hn
    obtain ⟨oL', es', ep', hoL', hdL', _⟩ := id hns
    have hLD : D ≠ env.locals := by rintro rfl; rw [hoL] at hD1; cases hD1
    have hfr : oL.isFreed = false := by obtain ⟨c', d', dt', sl'⟩ := oL; cases hdL; rfl
    have hL81 : env.locals ≠ 81 := ns_ne81 hR1.tab hn
    have gL : (h'.update env.locals fun _ => oL).get? env.locals = some oL := Heap.get?_update_self _ hoL' hfr
    have gN : ∀ d, d ≠ env.locals → (h'.update env.locals fun _ => oL).get? d = h'.get? d := fun d hd' => (Heap.SameBut.update h' env.locals fun _ => oL).2 d hd'
    have hmid : ∀ d oo, s1.heap.get? d = some oo → (h'.update env.locals fun _ => oL).get? d = some oo := fun d oo e => by
      by_cases q : d = env.locals
      · subst q; rw [gL]; rw [hoL] at e; exact e
      · rw [gN d q]; exact hne1 d oo q e
    have nm : Nx b s fz { s1 with heap := h'.update env.locals fun _ => oL, toks := tk } (fz1.put D (listO ys k)) := by
      refine ⟨?_, FM.le_trans n1.le (FM.le_put hfD), ?_, ?_, ?_, ?_, htk⟩
      · obtain ⟨h1, t1, rfl⟩ := n1.same; exact ⟨_, tk, rfl⟩
      · intro d oo e
        unfold FM.put at e
        by_cases q : d = D
        · subst q; rw [if_pos rfl] at e; cases e; exact (gN d hLD).trans hpl
        · rw [if_neg q] at e; exact hmid _ _ (hR1.fzh _ _ e)
      · intro d oo e
        unfold FM.put at e
        by_cases q : d = D
        · subst q; exact .inr hD0
        · rw [if_neg q] at e; exact n1.ext d oo e
      · intro d oo hb e; exact hmid _ _ (n1.kp d oo hb e)
      · obtain ⟨ps, q, e⟩ := hR1.tab; exact ⟨ps, q, hmid _ _ e⟩
    have stm := st.next nm
    have rs := paired_map hpair (fz1.put D (listO ys k)) ix
    rw [hmap] at rs
    have rl : R (fz1.put D (listO ys k)) ix (.ref D) (.lst ((l.filter tst).map g)) := .lst (by rw [List.length_map]; exact Nat.le_trans (List.length_filter_le _ _) H.size) (FM.put_self _ _ _) rfl rfl rs.1 rs.2
    have hmv : (h'.update env.locals fun _ => oL).Ns env.locals mv := ⟨oL, es, ep, gL, hdL, hrest⟩
    have fin := stm.setLocal (h' := h') (tk := tk) rl hkind hmv hns (fun d oo hd' e => by have e' : (h'.update env.locals fun _ => oL).get? d = some oo := e; rw [gN d hd'] at e'; exact e') (Nat.le_refl _)
    exact h _ _ _ _ fin .next
end
end Mine

end
section
open PySem PySem.Calls PySem.W PyProof.Rows
set_option Elab.async false
set_option autoImplicit false
set_option linter.unusedVariables false
set_option maxRecDepth 100000
namespace Mine

section
variable {c : C} {b : Bool} {n : Nat} {sc : Scope} {σ σ' σ₁ : Sg} {f : Fl}

/-- nobody's address -/
structure Nob (s₀ : Shared) (fz : FM) (ix : IX) (env : Env) (σ : Sg) (I : Addr) : Prop where
  n0 : s₀.heap.get? I = none
  nf : fz I = none
  no : ¬ Own env ix σ I
  n81 : I ≠ 81
  nx : ∀ i, ix i ≠ some I

theorem St.moves {s₀ s : Shared} {fz₀ fz : FM} {ix₀ ix : IX} {env : Env} (x : St c b s₀ fz₀ ix₀ fz ix env s σ) {wr : List Addr} (hw : ∀ I ∈ wr, Nob s₀ fz ix env σ I) {h' : Heap} {tk : Nat} (htk : s.toks ≤ tk)
    (hk : ∀ a o, a ∉ wr → s.heap.get? a = some o → h'.get? a = some o) : St c b s₀ fz₀ ix₀ fz ix env { s with heap := h', toks := tk } σ := by
  have hfz : ∀ a o, fz a = some o → h'.get? a = some o := fun a o e => hk a o (fun q => by rw [(hw a q).nf] at e; cases e) (x.rd.fzh a o e)
  have htab : T81 h' := let ⟨ps, q, e⟩ := x.rd.tab; ⟨ps, q, hk 81 _ (fun q => (hw 81 q).n81 rfl) e⟩
  refine ⟨⟨x.rd.ek, x.rd.eg, x.rd.eb, x.rd.base, hfz, htab, x.rd.t81, ⟨?_, ?_⟩, ?_, x.rd.t0, Nat.le_trans x.rd.tT htk, x.rd.dom, ?_, x.rd.inj, x.rd.ecd⟩, ?_, x.le, x.n, x.loc0, x.locF, x.locI, ?_, x.celA, x.celE, x.ixn, x.ixk, x.own, x.inj⟩
  · obtain ⟨mv, hn, hm⟩ := x.rd.loc.ns
    exact ⟨mv, hn.at' fun o e => hk _ o (fun q => (hw _ q).no (.inl rfl)) e, hm⟩
  · intro z w hz hkz
    obtain ⟨d, o, u, q1, q2, q3, r⟩ := x.rd.loc.cl z w hz hkz
    exact ⟨d, o, u, q1, hk d o (fun q => (hw d q).no (.inr (.inl ⟨z, q1⟩))) q2, q3, r⟩
  · intro i cl e
    obtain ⟨ad, e1, e2⟩ := x.rd.mus i cl e
    exact ⟨ad, e1, e2.up (IX.le_refl _) fun o e => hk ad o (fun q => (hw ad q).nx i e1) e⟩
  · intro i a e
    obtain ⟨o, q⟩ := x.rd.ixh i a e
    exact ⟨o, hk a o (fun q => (hw a q).nx i e) q⟩
  · refine ⟨?_, x.nx.le, hfz, x.nx.ext, ?_, htab, Nat.le_trans x.nx.tk htk⟩
    · obtain ⟨h1, t1, rfl⟩ := x.nx.same; exact ⟨h', tk, rfl⟩
    · intro a o hb e
      exact hk a o (fun q => by rw [(hw a q).n0] at e; cases e) (x.nx.kp a o hb e)
  · intro z a e
    obtain ⟨h1, h2, h3, h4, u, o, h5, h6⟩ := x.cel z a e
    exact ⟨h1, h2, h3, h4, u, o, hk a o (fun q => (hw a q).no (.inr (.inl ⟨z, e⟩))) h5, h6⟩

/-- a loop that binds several names a turn -/
inductive FoG (c : C) (b : Bool) (n : Nat) (sc : Scope) (ys : List Str) (body : List Stmt) : List (List V) → Sg → Fl → Sg → Prop
  | nil {σ : Sg} : FoG c b n sc ys body [] σ .next σ
  | turn {x : List V} {xs : List (List V)} {σ σ₁ σ' : Sg} {f : Fl} : ExS c b n sc (execs body) (setAll σ ys x) .next σ₁ → FoG c b n sc ys body xs σ₁ f σ' → FoG c b n sc ys body (x :: xs) σ f σ'
  | brk {x : List V} {xs : List (List V)} {σ σ' : Sg} : ExS c b n sc (execs body) (setAll σ ys x) .brk σ' → FoG c b n sc ys body (x :: xs) σ .next σ'
  | ret {x : List V} {z : V} {xs : List (List V)} {σ σ' : Sg} : ExS c b n sc (execs body) (setAll σ ys x) (.ret z) σ' → FoG c b n sc ys body (x :: xs) σ (.ret z) σ'

theorem Stays.nob {s₀ s s' : Shared} {fz fz' : FM} {ix ix' : IX} {env : Env} {σ₁ : Sg} (w : Stays env s s' fz fz' ix ix' σ σ₁) {I : Addr} (h : Nob s₀ fz ix env σ I) {o : Obj} (e : s.heap.get? I = some o) : Nob s₀ fz' ix' env σ₁ I ∧ s'.heap.get? I = some o := by
  obtain ⟨w1, w2, w3, w4⟩ := w I o h.no h.n81 e
  exact ⟨⟨h.n0, w3 h.nf, w2, h.n81, w4 h.nx⟩, w1⟩

noncomputable def enumL : Nat → List V → List (List V)
  | _, [] => []
  | k, x :: xs => [.int k, x] :: enumL (k + 1) xs

theorem setAll_two (σ : Sg) (y1 y2 : Str) (x1 x2 : V) : setAll σ [y1, y2] [x1, x2] = (σ.set y1 x1).set y2 x2 := rfl

theorem enumLoop {y1 y2 : Str} {p1 p2 pt : Pos} {k0 : Nat} {body : List Stmt} {l : List V} {A : Around} {env : Env} {s s₀ : Shared} {fz fz₀ : FM} {ix ix₀ : IX} {e it ad : Addr} {items : Array Value} {R' : Result → Shared → Prop}
    (hA : Room n A) (he : env.scope = sc) (hk1 : Stor sc y1) (hk2 : Stor sc y2) (st : St c b s₀ fz₀ ix₀ fz ix env s σ) (hne : Nob s₀ fz ix env σ e) (hni : Nob s₀ fz ix env σ it) (hei : e ≠ it) (had : ∃ o, fz ad = some o)
    (h1 : IsEnum s.heap e it 0 .none) (h2 : s.heap.IsListIter it ad 0) (h3 : s.heap.IsList ad items) (rs : Rs fz ix items.toList l) (hfo : FoG c b n sc [y1, y2] body (enumL 0 l) σ f σ')
    (h : ∀ fl s' fz' ix', St c b s₀ fz₀ ix₀ fz' ix' env s' σ' → FlOk fz' ix' f fl → R' (.ok fl) s') : codeAny c.M A (.forLoop (.Tuple [.Name y1 p1, .Name y2 p2] k0 pt) (.ref e) body [] env) R' s := by
  obtain ⟨oad, hoad⟩ := had
  have hlen : items.size = l.length := by have := rs.1; rw [Array.length_toList] at this; exact this
  have W := WalksT.enumerate (prog := c.prog) (w := c.w) hA.1 e it ad hei (fun q => by rw [q, hne.nf] at hoad; cases hoad) (fun q => by rw [q, hni.nf] at hoad; cases hoad) items
  have hdrop : ∀ (l : List V) (k i : Nat), (enumL k l).drop i = enumL (k + i) (l.drop i) := by
    intro l
    induction l with
    | nil => intro k i; simp [enumL]
    | cons x xs ih =>
      intro k i
      cases i with
      | zero => rfl
      | succ i =>
        show (enumL (k + 1) xs).drop i = _
        rw [ih]
        show enumL (k + 1 + i) (xs.drop i) = enumL (k + (i + 1)) (xs.drop i)
        congr 1; omega
  refine codeAny_forLoop_any (fun k s' => ∃ i σi fzi ixi, k = l.length - i ∧ i ≤ l.length ∧ St c b s₀ fz₀ ix₀ fzi ixi env s' σi ∧ ((∃ old, IsEnum s'.heap e it i old) ∧ s'.heap.IsListIter it ad i ∧ s'.heap.IsList ad items) ∧ FoG c b n sc [y1, y2] body (enumL i (l.drop i)) σi f σ' ∧ fz.le fzi ∧ ix.le ixi ∧
    Nob s₀ fzi ixi env σi e ∧ Nob s₀ fzi ixi env σi it) ?_ l.length ⟨0, σ, fz, ix, by simp, Nat.zero_le _, st, ⟨⟨.none, h1⟩, h2, h3⟩, by simpa using hfo, FM.le_refl _, IX.le_refl _, hne, hni⟩
  rintro k s' ⟨i, σi, fzi, ixi, rfl, hi, sti, hS, hf, hfz, hix, hNe, hNi⟩
  have hwr : ∀ I ∈ [e, it], Nob s₀ fzi ixi env σi I := fun I hI => by
    rcases List.mem_cons.mp hI with rfl | hI
    · exact hNe
    · rw [List.mem_singleton.mp hI]; exact hNi
  by_cases hlt : i < l.length
  · have hd : l.drop i = l[i] :: l.drop (i + 1) := List.drop_eq_getElem_cons hlt
    rw [hd] at hf
    refine wpAny_with_toks (n := s'.toks) (Nat.le_refl _) (W.item i s' _ _ (by rw [hlen]; exact hlt) hS fun T vals h' tk hP hT hIsT hM hk' htk => ?_)
    have st1 : St c b s₀ fz₀ ix₀ fzi ixi env { s' with heap := h', toks := tk } σi := sti.moves hwr htk hk'
    refine W.go _ _ _ i T _ _ _ hM fun h'' hS'' hk'' => ?_
    have st2 : St c b s₀ fz₀ ix₀ fzi ixi env { s' with heap := h'', toks := tk } σi := st1.moves hwr (Nat.le_refl _) hk''
    obtain ⟨t, x, hx, hvals⟩ := hP
    have hTwr : T ∉ [e, it] := W.apart i T h' hM
    have hIsT2 : h''.IsTuple T vals := by obtain ⟨o, ho, r⟩ := hIsT; exact ⟨o, hk'' T o hTwr ho, r⟩
    have rx : R fzi ixi x l[i] := (rs.2 i x l[i] (by simpa using hx) (by simp [hlt])).mono hfz hix
    have hti : IsTup h'' T vals := by obtain ⟨o, ho, r1, r2, r3⟩ := hIsT2; exact ⟨o, ho, r1, r2, r3⟩
    subst hvals
    refine assign_Tuple_tuple (env := env) (elts := [.Name y1 p1, .Name y2 p2]) hA.1 hti rfl rfl fun h3 hx3 => ?_
    have st3 := st2.ext hx3
    have keep3 : ∀ d o, h''.get? d = some o → h3.get? d = some o := fun d o e => hx3 d o (by rintro rfl; exact absurd (Heap.lt_size e) (Nat.lt_irrefl _)) e
    obtain ⟨⟨old3, g1⟩, ⟨o2, g2, g2'⟩, ⟨o3, g3, g3'⟩⟩ := hS''
    have k1 := keep3 _ _ g1
    have k2 := keep3 _ _ g2
    have rl : Rs fzi ixi [.int (i : Int) t, x] [.int i, l[i]] := Rs.cons (.int _ _) (Rs.cons rx Rs.nil)
    refine wp_setAll he (Setters.each (elts := [.Name y1 p1, .Name y2 p2]) (ys := [y1, y2]) rfl) [.int (i : Int) t, x] [.int i, l[i]] _ _ _ (fun y hy => by simp at hy; rcases hy with rfl | rfl <;> assumption) st3.enter rl rfl fun s4 st4 => ?_
    cases hf with
    | turn hb hr =>
      refine hb A env s4 _ fzi fzi ixi ixi _ _ hA he st4 fun fl s5 fz5 ix5 st5 kk => ?_
      obtain ⟨z, w⟩ := st3.leave st5
      cases kk
      obtain ⟨m1, m1'⟩ := w.nob hNe k1
      obtain ⟨m2, m2'⟩ := w.nob hNi k2
      have e3 := st3.rd.fzh ad oad (hfz _ _ hoad)
      have e4 : h3.get? ad = some oad := e3
      have e5 := keep3 _ _ g3
      rw [e4] at e5; cases e5
      have e6 := z.rd.fzh ad oad (st5.nx.le _ _ (hfz _ _ hoad))
      exact ⟨l.length - (i + 1), by omega, i + 1, _, _, _, rfl, hlt, z, ⟨⟨old3, m1'⟩, ⟨o2, m2', g2'⟩, ⟨oad, e6, g3'⟩⟩, hr, FM.le_trans hfz st5.nx.le, ⟨fun k d e => st5.le.1 _ _ (hix.1 _ _ e), Nat.le_trans hix.2 st5.le.2⟩, m1, m2⟩
    | brk hb =>
      refine hb A env s4 _ fzi fzi ixi ixi _ _ hA he st4 fun fl s5 fz5 ix5 st5 kk => ?_
      obtain ⟨z, w⟩ := st3.leave st5
      cases kk
      exact h _ _ _ _ z .next
    | ret hb =>
      refine hb A env s4 _ fzi fzi ixi ixi _ _ hA he st4 fun fl s5 fz5 ix5 st5 kk => ?_
      obtain ⟨z, w⟩ := st3.leave st5
      cases kk with
      | ret r => exact h _ _ _ _ z (.ret r)
  · have hin : i = l.length := by omega
    subst hin
    rw [List.drop_length] at hf
    cases hf
    refine wpAny_with_toks (n := s'.toks) (Nat.le_refl _) (W.done s' _ _ (by rw [hlen]; exact hS) fun h' tk hk' htk => ?_)
    exact wpAny_execs_nil (h _ _ _ _ (sti.moves hwr htk hk') .next)

/-- for y1, y2 in enumerate(e) -/
theorem ExS.forEnum {y1 y2 : Str} {p1 p2 pt gp cp pos : Pos} {k0 : Nat} {e : PySem.Expr} {body : List Stmt} {l : List V} (hk1 : Stor sc y1) (hk2 : Stor sc y2) (hg : Glob c.K ("enumerate" : Str) (.type "enumerate")) (hk : sc.names.lookup ("enumerate" : Str) = some .globalImplicit) (hstar : noStar e = true)
    (hs : ∀ (env : Env) u, foldedSetIterable (.Call (.Name "enumerate" gp) [e] [] cp) env u = pure u) (hv : EvJ c b n sc σ (eval e) (.lst l)) (hfo : FoG c b n sc [y1, y2] body (enumL 0 l) σ f σ') :
    ExS c b n sc (exec (.For (.Tuple [.Name y1 p1, .Name y2 p2] k0 pt) (.Call (.Name "enumerate" gp) [e] [] cp) body [] pos)) σ f σ' := .mk fun A env s s₀ fz fz₀ ix ix₀ Q E hA he st h => by
  refine wpAny_For ?_ (hs env)
  show wpAny c.M A (do callWith cp (← eval (.Name "enumerate" gp) env) [] (backTo cp (starEach [e] env)) []) _ E s
  refine wpAny_bind (wp_glob (j := ⟨b, n, sc, σ.m, σ.mu, ix⟩) hg hk (by decide) he st.rd ?_)
  refine PySem.callWith_type (first := []) (any_noStar (by simp [hstar])) (wp_evalArgs (by simp [hstar]) ?_)
  have hv' : EvLJ c b n sc σ (fun env => spliced (backTo cp (starEach [e] env))) [.lst l] := fun ix hN => EvL.cons hstar (hv ix hN) EvL.nil
  refine hv'.run hA he st fun ws s1 fz1 st1 n1 rw => ?_
  obtain ⟨w, rfl, rw'⟩ := rw.one
  cases rw' with
  | lst h0 h1 h2 h3 h4 h5 =>
    rename_i ad o vs k
    have hl : s1.heap.IsList ad vs := ⟨_, st1.rd.fzh _ _ h1, h2, _, h3⟩
    refine call_enumerate_list hl fun h' he' hit hz hkeep => ?_
    have nx : Nx b s1 fz1 { s1 with heap := h' } fz1 := Nx.grow st1.rd s1.toks (Nat.le_refl _) hkeep
    have st2 := st1.next nx
    have fr : ∀ d, s1.heap.objs.size ≤ d → Nob s₀ fz1 ix env σ d := fun d hd => by
      obtain ⟨f1, f2, f3, f4, f5⟩ := st1.fresh (a := d) (Heap.get?_none_of_le hd)
      exact ⟨f1, f2, f3, f4, f5⟩
    refine wpAny_pyIter_enum he' ?_
    have hl' : h'.IsList ad vs := ⟨_, hkeep _ _ (st1.rd.fzh _ _ h1), h2, _, h3⟩
    exact enumLoop hA he hk1 hk2 st2 (fr _ (Nat.le_succ _)) (fr _ (Nat.le_refl _)) (Nat.ne_of_gt (Nat.lt_succ_self _)) ⟨_, h1⟩ he' hit hl' ⟨h4, h5⟩ hfo fun fl s' fz' ix' st' k => h _ _ _ _ st' k
end
end Mine

end
section
open PySem PySem.Calls PySem.W PyProof.Rows
set_option Elab.async false
set_option autoImplicit false
set_option linter.unusedVariables false
set_option maxRecDepth 100000
namespace Mine

section
variable {c : C} {b : Bool} {n : Nat} {sc : Scope} {σ σ' σ₁ : Sg} {f : Fl}

theorem wp_lambda {A : Around} {env : Env} {s : Shared} {fz : FM} {ix : IX} {m : Loc} {mu : MU} {args : Arguments} {body : PySem.Expr} {scope : Scope} {pos : Pos} {Q : Value → Shared → Prop} {E : Value → Shared → Prop} (hR : Rd c.h₀ fz ix env s m mu) (hst : env.scope.names.lookup ("stuff" : Str) = some .local)
    (hd : defaultsOf args env = ([], [])) (hcl : closureFor scope env = pure [])
    (h : ∀ q s', Nx false s fz s' fz → s'.TypeIs (.ref q) "function" → Q (.ref q) s') : wpAny c.M A (eval (.Lambda args body scope pos) env) Q E s := by
  refine wpAny_with_toks (Nat.le_refl s.toks) ?_
  have hcode := hR.ecd hst
  obtain ⟨ps, ht, hP⟩ := hR.tab
  obtain ⟨mg, bm, ob, b1, b2, b3, b4, b5, b6, b7⟩ := c.hB.bmn
  have hg : s.heap.Ns mainGlobals mg := b1.keeps hR.st
  have hbm : s.heap.get? bm = some ob := hR.st _ _ b4
  have hgP : mainGlobals ≠ 81 := ns_ne81 hR.tab hg
  have hbP : bm ≠ 81 := fun q => by rw [q, hP] at hbm; cases hbm; cases b5
  have hbG : bm ≠ mainGlobals := fun q => by
    obtain ⟨o, es, ep, e, hd, _⟩ := hg
    rw [q, e] at hbm; cases hbm; rw [hd] at b7; cases b7
  have hfz : ∀ d o, fz d = some o → d ≠ 81 := fun d o e q => by rw [q, hR.t81] at e; cases e
  rw [arm_eval_Lambda, hd]
  refine wpAny_bind (m := evalAll []) (wpAny_pure ?_)
  refine wpAny_bind (wpAny_holding (m := evalAllOpt []) (wpAny_pure ?_))
  cases hca : codeAmong pos ps.toList with
  | none =>
    refine kla_makeFunction hcl hR.eg hg hcode (c.hB.chd.keeps hR.st) hP ht hca hgP ⟨bm, ob, b2, b3, hbG, hbP, hbm, b5, b6, b7⟩ fun c' ctv h' tk hx hge hlt hrec htb htk => ?_
    have k1 : ∀ d o, d ≠ 81 → s.heap.get? d = some o → (h'.push (kla_obj "<lambda>" (env.qual ++ "<lambda>") args body scope [] ((mg "__name__").getD .none) c' ctv)).get? d = some o := fun d o hd' e => Heap.get?_push_of_some _ (hx d o hd' e)
    refine h _ _ ⟨⟨_, tk, rfl⟩, FM.le_refl _, fun d o e => k1 d o (hfz d o e) (hR.fzh d o e), fun _ _ e => .inl e, fun d o hb e => ?_, ⟨_, ?_, Heap.get?_push_of_some _ htb⟩, htk⟩ ⟨_, Heap.get?_push_size _ rfl, rfl⟩
    · rcases hb with hb | hb
      · cases hb
      · exact k1 d o hb e
    · rw [Array.toList_append]
      exact TriplesOk_snoc _ _ _ _ ht
  | some cv =>
    refine kla_makeFunctionHit hcl hR.eg hg hcode (c.hB.chd.keeps hR.st) hP ht hca ⟨bm, ob, b2, b3, hbG, hbP, hbm, b5, b6, b7⟩ fun ctv h' tk hk hz htk => ?_
    have k1 : ∀ d o, s.heap.get? d = some o → (h'.push ({ cls := .type "function", data := .func (kla_fn "<lambda>" (env.qual ++ "<lambda>") args body scope [] ((mg "__name__").getD .none) cv ctv) } : Obj)).get? d = some o := fun d o e => Heap.get?_push_of_some _ (hk d o e)
    exact h _ _ ⟨⟨_, tk, rfl⟩, FM.le_refl _, fun d o e => k1 d o (hR.fzh d o e), fun _ _ e => .inl e, fun d o hb e => k1 d o e, ⟨ps, ht, k1 _ _ hP⟩, htk⟩ ⟨_, Heap.get?_push_size _ rfl, rfl⟩

/-- stuff = pattern.sub(lambda .., stuff) where nothing is found -/
theorem ExS.lamSub {y g z : Str} {p gp ap lp zp cp pos : Pos} {args : Arguments} {body : PySem.Expr} {scope : Scope} {pa : Addr} {l : List Nat} (hk : Stor sc y) (hkz : Stor sc z) (hdz : (z == ("__debug__" : Str)) = false) (hcdz : (z == ("__classdict__" : Str)) = false) (hline : (ap.endLine == cp.line) = true)
    (hg : Glob c.K g (.ref pa)) (hkg : sc.names.lookup g = some .globalImplicit) (hdg : (g == ("__debug__" : Str)) = false) (hst : sc.names.lookup ("stuff" : Str) = some .local) (hd : ∀ env, defaultsOf args env = ([], [])) (hcl : ∀ env, closureFor scope env = pure [])
    (hm : σ.m z = some (.str l)) (ht : ∀ d ∈ l, tame d) (hp : PatOk c.h₀ pa fnC 1) :
    ExS c false n sc (exec (.Assign [.Name y p] (.Call (.Attribute (.Name g gp) "sub" ap) [.Lambda args body scope lp, .Name z zp] [] cp) pos)) σ .next (σ.set y (.str l)) := .mk fun A env s s₀ fz fz₀ ix ix₀ Q E hA he st h => by
  refine wpAny_Assign_Name ?_ rfl
  refine wpAny_Call_method (T := "re.Pattern") (id := "re.Pattern.sub") rfl ?_ hline pa_pattern slot_sub type_sub ?_
  · rw [all_noStar rfl]; simp [show ∀ p env, backToKw p (keywordEach [] env) = [] from fun _ _ => rfl]
  · refine wp_glob (j := ⟨false, n, sc, σ.m, σ.mu, ix⟩) hg hkg hdg he st.rd ?_
    have hp1 : PatOk s.heap pa fnC 1 := hp.keeps fun a o e _ => st.rd.st a o e
    obtain ⟨ps, fl, ct, ee, q1, q2⟩ := hp1.ex
    refine ⟨⟨_, q1, rfl⟩, fun ad q => ?_, ?_⟩
    · cases q; exact ⟨_, q1, rfl⟩
    · refine callWith_builtin (first := [.ref pa]) (any_noStar rfl) (wp_evalArgs rfl ?_)
      have one : ∀ (t : Sem Value) (r : List (Bool × Sem Value)) (Q' : List Value → Shared → Prop) (s' : Shared), wpAny c.M A t (fun v s1 => wpAny c.M A (spliced (backTo cp r)) (fun vs s2 => Q' (v :: vs) s2) E s1) E s' → wpAny c.M A (spliced (backTo cp ((false, t) :: r))) Q' E s' := fun t r Q' s' hh => by
        show wpAny c.M A (do
          let v ← t
          let here ← pure [v]
          return here ++ (← holding here (spliced (backTo cp r)))) Q' E s'
        refine wpAny_bind (wpAny_mono hh (fun v s1 h1 => ?_) fun _ _ e => e)
        refine wpAny_bind (wpAny_pure (wpAny_bind (wpAny_holding (wpAny_mono h1 (fun vs s2 h2 => wpAny_pure h2) fun _ _ e => e))))
      rw [starEach_cons (e := .Lambda args body scope lp) rfl, starEach_cons (e := .Name z zp) rfl]
      refine one _ _ _ _ (wp_lambda st.rd (by rw [he]; exact hst) (hd env) (hcl env) fun q s1 n1 hT => ?_)
      have st1 := st.next n1
      refine one _ _ _ _ (wpAny_Name (wp_load hkz he hcdz st1.rd hm fun u r => ?_) hdz)
      refine wpAny_pure ?_
      obtain ⟨t, rfl, hl⟩ := str_len r
      have hp2 : PatOk s1.heap pa fnC 1 := hp.keeps fun a o e _ => st1.rd.st a o e
      refine call_meets slot_sub hp2.typeIs entry_sub (args_sub _ _ _) (meets_sub1 (t := t) (fn_fnd ht) hl) ⟨hp2, hT, fun h' tk t' htk kk => ?_⟩
      have st2 := st1.next (Nx.grow (b := false) st1.rd tk htk kk)
      exact wp_store hk he st2 (.str l t' hl) fun s' st' => h _ _ _ _ st' .next
end
end Mine

end
section
open PySem PySem.Calls PySem.W PyProof.Rows
set_option Elab.async false
set_option autoImplicit false
set_option linter.unusedVariables false
set_option maxRecDepth 100000
namespace Mine

theorem toNat_map_inj : ∀ {a b : List Char}, a.map Char.toNat = b.map Char.toNat → a = b
  | [], [], _ => rfl
  | [], _ :: _, h => by simp at h
  | _ :: _, [], h => by simp at h
  | x :: a, y :: b, h => by
    simp only [List.map_cons, List.cons.injEq] at h
    rw [toNat_map_inj h.2]
    congr 1
    exact Char.toNat_inj.mp h.1
theorem strEq (a b : String) : (Str.ofString a = Str.ofString b) = (a = b) := by
  apply propext
  constructor
  · intro h
    rw [Str.ofString_eq_toList, Str.ofString_eq_toList] at h
    have h2 := congrArg (fun x : Str => x.cps.toList) h
    simp only [List.toList_toArray] at h2
    exact String.toList_inj.mp (toNat_map_inj h2)
  · rintro rfl; rfl
theorem strCps (s : String) : (Str.ofString s).cps.toList = s.toList.map Char.toNat := by
  rw [Str.ofString_eq_toList]

section
variable {c : C} {j : J}
theorem EvS.to {t : Env → Sem Value} {x y : V} (h : EvS c j t x) (e : x = y) : EvS c j t y := e ▸ h
theorem EvT.to {t : Env → Sem Bool} {x y : Bool} (h : EvT c j t x) (e : x = y) : EvT c j t y := e ▸ h
theorem ExS.to {b : Bool} {n : Nat} {sc : Scope} {t : Env → Sem Flow} {σ σ' σ₂ : Sg} {f : Fl} (h : ExS c b n sc t σ f σ') (e : σ' = σ₂) : ExS c b n sc t σ f σ₂ := e ▸ h
theorem ExS.one {b : Bool} {n : Nat} {sc : Scope} {st : Stmt} {σ σ' : Sg} {f : Fl} (h : ExS c b n sc (exec st) σ f σ') : ExS c b n sc (execs [st]) σ f σ' := by
  by_cases e : f = .next
  · subst e; exact ExS.cons h ExS.nil
  · exact ExS.stop h e
theorem EvS.const {x : Str} {k : Nat} {pos : Pos} {l : List Nat} (e : x.cps.toList = l) (hl : l.length ≤ sizeLine) : EvS c j (eval (.Constant (.str x) k pos)) (.str l) := by
  subst e; exact EvS.cstr hl
end
section
variable {c : C} {j : J}
theorem EvS.ite {t b o : PySem.Expr} {pos : Pos} {tv : Bool} {x y : V} (ht : EvT c j (fun env => isTrue t env (eval t env)) tv) (hb : tv = true → EvS c j (eval b) x) (ho : tv = false → EvS c j (eval o) y) : EvS c j (eval (.IfExp t b o pos)) (if tv = true then x else y) :=
  EvS.ifexp ht (fun h => by rw [if_pos h]; exact hb h) (fun h => by rw [if_neg (by rw [h]; exact Bool.false_ne_true)]; exact ho h)
theorem EvO.some {e : PySem.Expr} {i : Int} (h : EvS c j (eval e) (.int i)) : EvO c j (.some e) (.some i) := h
theorem EvO.none : EvO c j .none .none := trivial
end
noncomputable def bodyAt (p : Program) (k : Nat) : List Stmt := match p.main.body[k]? with
  | some (.FunctionDef _ _ b _ _ _ _ _ _ _) => b
  | _ => []
noncomputable def scopeAt (p : Program) (k : Nat) : Scope := match p.main.body[k]? with
  | some (.FunctionDef _ _ _ _ _ _ s _ _ _) => s
  | _ => default
/-- the body of the k-th statement, a loop -/
noncomputable def inFor (l : List Stmt) (k : Nat) : List Stmt := match l[k]? with
  | some (.For _ _ b _ _) => b
  | some (.While _ b _ _) => b
  | _ => []
noncomputable def whTest (l : List Stmt) (k : Nat) : PySem.Expr := match l[k]? with
  | some (.While t _ _ _) => t
  | _ => .Constant .none 0 default
noncomputable def inIf (l : List Stmt) (k : Nat) : List Stmt := match l[k]? with
  | some (.If _ b _ _) => b
  | _ => []
noncomputable def inElse (l : List Stmt) (k : Nat) : List Stmt := match l[k]? with
  | some (.If _ _ b _) => b
  | _ => []

section
variable {c : C} {j : J}
theorem Op2.eq_bool {a b : Bool} : Op2 c j (compareOp .Eq) (.bool a) (.bool b) (.bool (a == b)) := .mk fun A env s fz v u Q E hA hR r1 r2 h => by
  obtain rfl : v = _ := r1.inv; obtain rfl : u = _ := r2.inv; exact EqBoolInt.of_rc (SeqAt.RcAt.bool_bool a b) (h _ _ _ (Nx.refl hR) (.bool _))
theorem Op2.ne_bool {a b : Bool} : Op2 c j (compareOp .NotEq) (.bool a) (.bool b) (.bool (!(a == b))) := .mk fun A env s fz v u Q E hA hR r1 r2 h => by
  obtain rfl : v = _ := r1.inv; obtain rfl : u = _ := r2.inv; exact EqBoolInt.of_rcne (SeqAt.RcNeAt.bool_bool a b) (h _ _ _ (Nx.refl hR) (.bool _))
end
theorem seqIdx_nat {a n : Nat} (h : a < n) : seqIndex? (a : Int) n = some a := by
  unfold seqIndex?
  have h0 : ¬ (a : Int) < 0 := by omega
  simp only [h0, if_false]
  rw [if_pos (by simp only [Bool.and_eq_true, decide_eq_true_eq]; omega)]
  rfl
theorem clipAt_nat (n a : Nat) : clipAt n (a : Int) = min a n := by
  unfold clipAt
  rw [if_neg (Int.not_lt.mpr (Int.natCast_nonneg a))]
  rcases Nat.le_total a n with h | h
  · rw [Int.min_eq_left (Int.ofNat_le.mpr h), Nat.min_eq_left h, Int.max_eq_right (Int.natCast_nonneg _), Int.toNat_natCast]
  · rw [Int.min_eq_right (Int.ofNat_le.mpr h), Nat.min_eq_right h, Int.max_eq_right (Int.natCast_nonneg _), Int.toNat_natCast]
theorem cut_nat {α : Type} (l : List α) {i k : Int} (a d : Nat) (hi : i = (a : Int)) (hk : k = (d : Int)) (h : d ≤ l.length) : cut l (some i) (some k) = (l.drop a).take (d - a) := by
  subst hi hk
  unfold cut
  show (l.drop (clipAt l.length (a : Int))).take (clipAt l.length (d : Int) - clipAt l.length (a : Int)) = _
  rw [clipAt_nat, clipAt_nat, Nat.min_eq_left h]
  by_cases ha : a ≤ l.length
  · rw [Nat.min_eq_left ha]
  · rw [Nat.min_eq_right (by omega), List.drop_eq_nil_of_le (Nat.le_refl _), List.drop_eq_nil_of_le (by omega)]; simp
theorem cut_from {α : Type} (l : List α) {i : Int} (a : Nat) (hi : i = (a : Int)) : cut l (some i) none = l.drop a := by
  subst hi
  unfold cut
  show (l.drop (clipAt l.length (a : Int))).take (l.length - clipAt l.length (a : Int)) = _
  rw [clipAt_nat]
  by_cases ha : a ≤ l.length
  · rw [Nat.min_eq_left ha]; exact List.take_of_length_le (by rw [List.length_drop]; exact Nat.le_refl _)
  · rw [Nat.min_eq_right (by omega), List.drop_eq_nil_of_le (Nat.le_refl _), List.drop_eq_nil_of_le (by omega)]; simp
theorem seqIdx0 {α : Type} (x : α) (l : List α) : seqIndex? 0 (x :: l).length = some 0 := seqIdx_nat (a := 0) (by simp)
/-- the k-th statement of the program is the function at a -/
noncomputable def FnIs (P : Program) (h : Heap) (a : Addr) (k : Nat) (ps : List Str) : Prop := ∃ fd, FnAt h a fd (bodyAt P k) ps ∧ fd.scope = scopeAt P k
/-- called with l it hands out y -/
noncomputable def FnS (P : Program) (c : C) (b : Bool) (n : Nat) (k : Nat) (ps : List Str) (l : List V) (y : V) (N : Nat) : Prop :=
  ∃ x σ', ExS c b n (scopeAt P k) (execs (bodyAt P k)) ⟨argm ps l fun _ => none, fun _ => none, N⟩ (.ret x) σ' ∧ Frz σ'.mu N x y
theorem EvS.own {P : Program} {c : C} {j : J} {g : Str} {fp pos : Pos} {a : Addr} {k n' : Nat} {ps : List Str} {es : List PySem.Expr} {l : List V} {y : V} (hg : Glob c.K g (.ref a)) (hk : j.sc.names.lookup g = some .globalImplicit) (hd : (g == ("__debug__" : Str)) = false) (F : FnIs P c.h₀ a k ps)
    (hs : es.all noStar = true) (ha : EvL c j (fun env => spliced (backTo pos (starEach es env))) l) (hn : j.n = n' + 1) (hl : ps.length = l.length) (H : FnS P c j.b n' k ps l y j.ix.N) : EvS c j (eval (.Call (.Name g fp) es [] pos)) y := by
  obtain ⟨fd, F, hsc⟩ := F
  obtain ⟨x, σ', hb, hf⟩ := H
  obtain ⟨o, ho, hd'⟩ := id F.obj
  refine EvS.callo hg hk hd ho hd' hs ha (OpN.own F hn hl (x := x) (σ' := σ') ?_ hf)
  rw [hsc]; exact hb
/-- the facts of the module -/
structure Wd (c : C) : Prop where
  len : Glob c.K "len" (.builtin "len")
  chr : Glob c.K "chr" (.builtin "chr")
  min : Glob c.K "min" (.builtin "min")
  max : Glob c.K "max" (.builtin "max")
  isi : Glob c.K "isinstance" (.builtin "isinstance")
  range : Glob c.K "range" (.type "range")
  list : Glob c.K "list" (.type "list")
  str : Glob c.K "str" (.type "str")
  enum : Glob c.K "enumerate" (.type "enumerate")
  object : Glob c.K "object" (.type "object")
  p36 : PatOk c.h₀ 36 dotC 0
  p41 : PatOk c.h₀ 41 eolC 0
  p60 : PatOk c.h₀ 60 fnC 1
  t69 : TabOk c.h₀ 69
  g36 : Glob c.K "twin_re_1_smtplib" (.ref 36)
  g41 : Glob c.K "_twin_re_2" (.ref 41)
  g60 : Glob c.K "twin_re_1_fnmatch" (.ref 60)
  g69 : Glob c.K "_special_chars_map" (.ref 69)
  crlf : ∃ t, Glob c.K "CRLF" (.str ⟨#[13, 10]⟩ t)
  f48 : Glob c.K "quotedata" (.ref 48)
  f55 : Glob c.K "_fix_eols" (.ref 55)
  f67 : Glob c.K "translate" (.ref 67)
  f79 : Glob c.K "escape" (.ref 79)
  f86 : Glob c.K "_translate" (.ref 86)
  f93 : Glob c.K "_join_translated_parts" (.ref 93)
theorem pat_TypeIs {c : C} {j : J} {pa : Addr} {code : Array Nat} {g : Nat} (hp : PatOk c.h₀ pa code g) : ∀ env s fz v, Rd c.h₀ fz j.ix env s j.m j.mu → R fz j.ix v (.con pa) → s.TypeIs v "re.Pattern" ∧ (∀ ad, v = .ref ad → ∃ ob, s.heap.get? ad = some ob ∧ ob.dict = none) := fun env s fz v hR r => by
  obtain rfl : v = _ := r.inv
  have hp1 : PatOk s.heap pa code g := hp.keeps fun a o e _ => hR.st a o e
  obtain ⟨ps, fl, ct, ee, q1, q2⟩ := hp1.ex
  exact ⟨⟨_, q1, rfl⟩, fun ad e => by cases e; exact ⟨_, q1, rfl⟩⟩
end Mine

end
section
open PySem PySem.Calls PySem.W PyProof.Rows
open PySem.Builtin.Str (occurrences partsBetween strSub subAt glued)
set_option Elab.async false
set_option autoImplicit false
set_option linter.unusedVariables false
set_option maxRecDepth 100000
namespace Mine

/-! find, split, replace, count as functions of lists -/
noncomputable def isAt (x y : List Nat) (i : Nat) : Bool := decide (i + y.length ≤ x.length) && ((x.drop i).take y.length == y)
noncomputable def occG (x y : List Nat) : Nat → Nat → Nat → Nat → List Nat
  | 0, _, _, _ => []
  | n + 1, i, free, lim => if 0 < lim ∧ free ≤ i ∧ isAt x y i = true then i :: occG x y n (i + 1) (i + y.length) (lim - 1) else occG x y n (i + 1) free lim
theorem occ_run (x y : List Nat) (limit : Nat) : ∀ (n i free : Nat) (acc : Array Nat), acc.size ≤ limit →
    (forIn (List.range' i n) (acc, free) (StrLaws.occBody (mkStr' x) (mkStr' y) x.length limit)).run.fst.toList = acc.toList ++ occG x y n i free (limit - acc.size)
  | 0, i, free, acc, h => by simp [occG]
  | n + 1, i, free, acc, h => by
    have ly : (mkStr' y).length = y.length := List.size_toArray ..
    have hsub : subAt (mkStr' x) (mkStr' y) i = ((x.drop i).take y.length == y) := by rw [StrLaws.subAt_eq, ly]; simp [mkStr']
    rw [List.range'_succ, List.forIn_cons]
    unfold StrLaws.occBody occG
    by_cases hc : ((acc.size < limit ∧ free ≤ i) ∧ i + (mkStr' y).length ≤ x.length) ∧ subAt (mkStr' x) (mkStr' y) i = true
    · rw [if_pos hc]
      rw [if_pos ⟨by omega, hc.1.1.2, by unfold isAt; rw [Bool.and_eq_true, ← hsub]; exact ⟨by rw [decide_eq_true_eq, ← ly]; exact hc.1.2, hc.2⟩⟩]
      have ih := occ_run x y limit n (i + 1) (i + y.length) (acc.push i) (by rw [Array.size_push]; exact hc.1.1.1)
      rw [Array.size_push, Array.toList_push] at ih
      have e : limit - acc.size - 1 = limit - (acc.size + 1) := by omega
      rw [e, ly]
      exact ih.trans (by simp)
    · rw [if_neg hc]
      rw [if_neg (fun q => hc ⟨⟨⟨by omega, q.2.1⟩, by
        have := q.2.2; unfold isAt at this; rw [Bool.and_eq_true, decide_eq_true_eq] at this; rw [ly]; exact this.1⟩, by
        have := q.2.2; unfold isAt at this; rw [Bool.and_eq_true] at this; rw [hsub]; exact this.2⟩)]
      exact occ_run x y limit n (i + 1) free acc h
theorem occ_list (x y : List Nat) (lo limit : Nat) : occurrences (mkStr' x) (mkStr' y) lo x.length limit = occG x y (x.length + 1 - lo) lo lo limit := by
  rw [StrLaws.occ_eq]
  have := occ_run x y limit (x.length + 1 - lo) lo lo #[] (Nat.zero_le _)
  simpa using this

theorem occG_succ (x y : List Nat) (n i free lim : Nat) : occG x y (n + 1) i free lim = if 0 < lim ∧ free ≤ i ∧ isAt x y i = true then i :: occG x y n (i + 1) (i + y.length) (lim - 1) else occG x y n (i + 1) free lim := rfl
theorem occG_zero (x y : List Nat) : ∀ (n i free : Nat), occG x y n i free 0 = []
  | 0, _, _ => rfl
  | n + 1, i, free => by rw [occG_succ, if_neg (by omega)]; exact occG_zero x y n (i + 1) free
theorem occG_first {x y : List Nat} : ∀ (n i free p lim : Nat), free ≤ i → i ≤ p → p < i + n → 0 < lim → (∀ k, i ≤ k → k < p → isAt x y k = false) → isAt x y p = true →
    occG x y n i free lim = p :: occG x y (n - (p - i) - 1) (p + 1) (p + y.length) (lim - 1)
  | 0, i, free, p, lim, h1, h2, h3, h4, h5, h6 => by omega
  | n + 1, i, free, p, lim, h1, h2, h3, h4, h5, h6 => by
    rw [occG_succ]
    by_cases e : i = p
    · subst e
      rw [if_pos ⟨h4, h1, h6⟩]
      congr 1
      rw [show n + 1 - (i - i) - 1 = n from by omega]
    · rw [if_neg (fun q => by rw [h5 i (Nat.le_refl _) (by omega)] at q; cases q.2.2)]
      rw [occG_first n (i + 1) free p lim (by omega) (by omega) (by omega) h4 (fun k a b => h5 k (by omega) b) h6]
      rw [show n - (p - (i + 1)) - 1 = n + 1 - (p - i) - 1 from by omega]
theorem occG_none {x y : List Nat} : ∀ (n i free lim : Nat), (∀ k, i ≤ k → k < i + n → isAt x y k = false) → occG x y n i free lim = []
  | 0, i, free, lim, h => rfl
  | n + 1, i, free, lim, h => by
    rw [occG_succ]
    rw [if_neg (fun q => by rw [h i (Nat.le_refl _) (by omega)] at q; cases q.2.2)]
    exact occG_none n (i + 1) free lim fun k a b => h k (by omega) (by omega)
theorem isAt_one {x : List Nat} {d i : Nat} : isAt x [d] i = (x[i]? == some d) := by
  unfold isAt
  by_cases h : i < x.length
  · have e : (x.drop i).take [d].length = [x[i]] := by rw [List.drop_eq_getElem_cons h]; rfl
    rw [decide_eq_true (show i + [d].length ≤ x.length from h), Bool.true_and, e, List.getElem?_eq_getElem h]
    simp
  · rw [decide_eq_false (show ¬ i + [d].length ≤ x.length from fun q => h q), List.getElem?_eq_none (by omega)]; rfl
/-- the first of a sign from a place on -/
theorem find3_one {pre mid post : List Nat} {d : Nat} (h : d ∉ mid) : find3V (pre ++ mid ++ d :: post) [d] (pre.length : Int) = ((pre.length + mid.length : Nat) : Int) := by
  unfold find3V Txt.find3
  have hlen : (mkStr' (pre ++ mid ++ d :: post)).length = (pre ++ mid ++ d :: post).length := List.size_toArray ..
  have hf : fromIndex (mkStr' (pre ++ mid ++ d :: post)).length (pre.length : Int) = pre.length := by unfold fromIndex; omega
  rw [hf, hlen, occ_list]
  have hz : (pre ++ mid ++ d :: post).length = pre.length + mid.length + 1 + post.length := by simp; omega
  have h1 : ∀ k, pre.length ≤ k → k < pre.length + mid.length → isAt (pre ++ mid ++ d :: post) [d] k = false := fun k h1 h2 => by
    rw [isAt_one, List.getElem?_append_left (by simp; omega), List.getElem?_append_right (by omega)]
    have hk : k - pre.length < mid.length := by omega
    rw [List.getElem?_eq_getElem hk]
    simp only [beq_eq_false_iff_ne, ne_eq, Option.some.injEq]
    rintro rfl
    exact h (List.getElem_mem hk)
  have h2 : isAt (pre ++ mid ++ d :: post) [d] (pre.length + mid.length) = true := by
    rw [isAt_one, List.getElem?_append_right (by simp)]; simp
  rw [occG_first _ _ _ _ _ (Nat.le_refl _) (Nat.le_add_right _ mid.length) (by rw [hz]; omega) (by decide) h1 h2]

theorem occG_skip {x y : List Nat} : ∀ (k n i free lim : Nat), free = i + k → k ≤ n → occG x y n i free lim = occG x y (n - k) free free lim
  | 0, n, i, free, lim, h, _ => by rw [h]; rfl
  | k + 1, n, i, free, lim, h, hk => by
    obtain ⟨n', rfl⟩ : ∃ n', n = n' + 1 := ⟨n - 1, by omega⟩
    rw [occG_succ, if_neg (by omega), occG_skip k n' (i + 1) free lim (by omega) (by omega)]
    rw [show n' + 1 - (k + 1) = n' - k from by omega]
theorem occG_free {x y : List Nat} : ∀ (n i free free' lim : Nat), free ≤ i → free' ≤ i → occG x y n i free lim = occG x y n i free' lim
  | 0, i, free, free', lim, _, _ => rfl
  | n + 1, i, free, free', lim, h1, h2 => by
    rw [occG_succ, occG_succ]
    by_cases h : 0 < lim ∧ isAt x y i = true
    · rw [if_pos ⟨h.1, h1, h.2⟩, if_pos ⟨h.1, h2, h.2⟩]
    · rw [if_neg (fun q => h ⟨q.1, q.2.2⟩), if_neg (fun q => h ⟨q.1, q.2.2⟩)]
      exact occG_free n (i + 1) free free' lim (by omega) (by omega)
/-- cut at every y, from the left -/
noncomputable def splF (y : List Nat) : Nat → List Nat → List (List Nat)
  | 0, l => [l]
  | n + 1, l => if y.isPrefixOf l then [] :: splF y n (l.drop y.length) else match l with
    | [] => [[]]
    | a :: r => match splF y n r with
      | p :: ps => (a :: p) :: ps
      | [] => [[a]]
theorem splF_ne (y : List Nat) : ∀ (n : Nat) (l : List Nat), splF y n l ≠ []
  | 0, l => by simp [splF]
  | n + 1, l => by
    unfold splF
    split
    · simp
    · split
      · simp
      · split <;> simp
noncomputable def partsF (x : List Nat) (w : Nat) : Nat → List Nat → List (List Nat)
  | p, [] => [x.drop p]
  | p, k :: ks => ((x.drop p).take (k - p)) :: partsF x w (k + w) ks
theorem parts_eq (x : List Nat) (w : Nat) : ∀ (cuts : List Nat) (p : Nat), (∀ k ∈ cuts, k ≤ x.length) → ((p :: cuts.map (· + w)).zip (cuts ++ [x.length])).map (fun q => (x.drop q.1).take (q.2 - q.1)) = partsF x w p cuts
  | [], p, _ => by simp only [List.map_nil, List.nil_append, List.zip_cons_cons, List.zip_nil_right, List.map_cons, partsF]; rw [List.take_of_length_le (by simp)]
  | k :: ks, p, h => by
    show ((x.drop p).take (k - p)) :: (((k + w) :: ks.map (· + w)).zip (ks ++ [x.length])).map _ = _
    rw [parts_eq x w ks (k + w) fun j hj => h j (List.mem_cons_of_mem _ hj)]
    rfl
theorem isAt_pre {x y : List Nat} {i : Nat} (hi : i ≤ x.length) : isAt x y i = y.isPrefixOf (x.drop i) := by
  unfold isAt
  rw [Bool.eq_iff_iff, Bool.and_eq_true, decide_eq_true_eq, beq_iff_eq, List.isPrefixOf_iff_prefix]
  constructor
  · rintro ⟨_, h⟩; rw [← h]; exact List.take_prefix _ _
  · intro h
    have h1 := h.length_le
    rw [List.length_drop] at h1
    obtain ⟨r, hr⟩ := h
    refine ⟨by have : y.length ≤ x.length - i := h1; by_cases y0 : y.length = 0 <;> omega, ?_⟩
    rw [← hr]; simp
noncomputable def headC (a : Nat) : List (List Nat) → List (List Nat)
  | p :: ps => (a :: p) :: ps
  | [] => [[a]]
theorem splF_succ (y : List Nat) (n : Nat) (l : List Nat) : splF y (n + 1) l = if y.isPrefixOf l then [] :: splF y n (l.drop y.length) else match l with
    | [] => [[]]
    | a :: r => headC a (splF y n r) := rfl
theorem splF_fuel {y : List Nat} (hy : y ≠ []) : ∀ (n : Nat) (l : List Nat), l.length < n → splF y (n + 1) l = splF y n l
  | 0, l, h => by omega
  | n + 1, l, h => by
    have hpos : 0 < y.length := List.length_pos_iff.mpr hy
    rw [splF_succ y (n + 1) l, splF_succ y n l]
    by_cases hp : y.isPrefixOf l = true
    · rw [if_pos hp, if_pos hp]
      have h1 : y.length ≤ l.length := (List.isPrefixOf_iff_prefix.mp hp).length_le
      rw [splF_fuel hy n _ (by rw [List.length_drop]; omega)]
    · rw [if_neg hp, if_neg hp]
      cases l with
      | nil => rfl
      | cons a r =>
        show headC a (splF y (n + 1) r) = headC a (splF y n r)
        rw [splF_fuel hy n r (by rw [List.length_cons] at h; omega)]
theorem splF_any {y : List Nat} (hy : y ≠ []) : ∀ (d n : Nat) (l : List Nat), l.length < n → splF y (n + d) l = splF y n l
  | 0, n, l, h => rfl
  | d + 1, n, l, h => by rw [show n + (d + 1) = (n + d) + 1 from rfl, splF_fuel hy (n + d) l (by omega), splF_any hy d n l h]
/-- cut at every y, from the left -/
noncomputable def splL (y l : List Nat) : List (List Nat) := splF y (l.length + 1) l
theorem splL_of {y : List Nat} (hy : y ≠ []) (n : Nat) (l : List Nat) (h : l.length < n) : splF y n l = splL y l := by
  have := splF_any hy (n - (l.length + 1)) (l.length + 1) l (Nat.lt_succ_self _)
  rw [show l.length + 1 + (n - (l.length + 1)) = n from by omega] at this
  exact this
theorem splL_pre {y : List Nat} (hy : y ≠ []) {l : List Nat} (h : y.isPrefixOf l = true) : splL y l = [] :: splL y (l.drop y.length) := by
  have hpos : 0 < y.length := List.length_pos_iff.mpr hy
  have h1 : y.length ≤ l.length := (List.isPrefixOf_iff_prefix.mp h).length_le
  unfold splL
  rw [splF_succ, if_pos h, splL_of hy l.length (l.drop y.length) (by rw [List.length_drop]; omega)]
  rfl
theorem splL_cons {y : List Nat} (hy : y ≠ []) {a : Nat} {r : List Nat} (h : y.isPrefixOf (a :: r) = false) : splL y (a :: r) = headC a (splL y r) := by
  unfold splL
  rw [splF_succ, if_neg (by rw [h]; exact Bool.false_ne_true)]
  rfl
theorem splL_nil {y : List Nat} (hy : y ≠ []) : splL y [] = [[]] := by
  unfold splL
  rw [splF_succ, if_neg (by cases y with | nil => exact absurd rfl hy | cons => simp)]
theorem splL_ne (y l : List Nat) : splL y l ≠ [] := splF_ne _ _ _
noncomputable def preC (q : List Nat) : List (List Nat) → List (List Nat)
  | h :: t => (q ++ h) :: t
  | [] => [q]
theorem partsF_spl {x y : List Nat} (hy : y ≠ []) : ∀ (m n i p lim : Nat), x.length - i < m → p ≤ i → i ≤ x.length → n = x.length + 1 - i → n ≤ lim →
    partsF x y.length p (occG x y n i i lim) = preC ((x.drop p).take (i - p)) (splL y (x.drop i))
  | 0, n, i, p, lim, hm, _, _, _, _ => by omega
  | m + 1, n, i, p, lim, hm, hp, hi, hn, hl => by
    have hpos : 0 < y.length := List.length_pos_iff.mpr hy
    obtain ⟨n', rfl⟩ : ∃ n', n = n' + 1 := ⟨n - 1, by omega⟩
    rw [occG_succ]
    by_cases h : isAt x y i = true
    · rw [if_pos ⟨by omega, Nat.le_refl _, h⟩]
      rw [isAt_pre hi] at h
      have h1 : y.length ≤ (x.drop i).length := (List.isPrefixOf_iff_prefix.mp h).length_le
      rw [List.length_drop] at h1
      rw [splL_pre hy h, List.drop_drop]
      show _ :: _ = (_ ++ []) :: _
      rw [List.append_nil]
      rw [occG_skip (y.length - 1) n' (i + 1) (i + y.length) (lim - 1) (by omega) (by omega)]
      rw [partsF_spl hy m _ (i + y.length) (i + y.length) (lim - 1) (by omega) (Nat.le_refl _) (by omega) (by omega) (by omega)]
      have e : splL y (x.drop (i + y.length)) ≠ [] := splL_ne _ _
      cases hs : splL y (x.drop (i + y.length)) with
      | nil => exact absurd hs e
      | cons a t => simp [preC]
    · rw [if_neg (fun q => h q.2.2)]
      rw [isAt_pre hi] at h
      by_cases hlt : i < x.length
      · have hd : x.drop i = x[i] :: x.drop (i + 1) := List.drop_eq_getElem_cons hlt
        rw [hd] at h ⊢
        rw [splL_cons hy (by rw [Bool.not_eq_true] at h; exact h)]
        rw [occG_free n' (i + 1) i (i + 1) lim (by omega) (Nat.le_refl _), partsF_spl hy m n' (i + 1) p lim (by omega) (by omega) hlt (by omega) (by omega)]
        have e2 : (x.drop p).take (i + 1 - p) = (x.drop p).take (i - p) ++ [x[i]] := by
          rw [show i + 1 - p = (i - p) + 1 from by omega, List.take_add_one, List.getElem?_drop, show p + (i - p) = i from by omega, List.getElem?_eq_getElem hlt]
          rfl
        rw [e2]
        cases hs : splL y (x.drop (i + 1)) with
        | nil => exact absurd hs (splL_ne _ _)
        | cons a t => simp [preC, headC]
      · have hi' : i = x.length := by omega
        have hn' : n' = 0 := by omega
        subst hn'
        have e0 : x.drop i = [] := List.drop_eq_nil_of_le (by omega)
        rw [e0, splL_nil hy]
        show [x.drop p] = [(x.drop p).take (i - p) ++ []]
        rw [List.append_nil, List.take_of_length_le (by rw [List.length_drop]; omega)]

theorem kind_le {x y : List Nat} (h : ∀ d ∈ y, d ∈ x) : Builtin.Str.strKind (mkStr' y) ≤ Builtin.Str.strKind (mkStr' x) := by
  have hx : ∀ k, ((mkStr' x).cps.all (· < k)) = x.all (· < k) := fun k => by simp [mkStr']
  have hy : ∀ k, ((mkStr' y).cps.all (· < k)) = y.all (· < k) := fun k => by simp [mkStr']
  have sub : ∀ k, x.all (· < k) = true → y.all (· < k) = true := fun k hk => by
    rw [List.all_eq_true] at hk ⊢
    exact fun d hd => hk d (h d hd)
  unfold Builtin.Str.strKind
  rw [hx, hx, hy, hy]
  by_cases h1 : x.all (· < 256) = true
  · rw [if_pos h1, if_pos (sub 256 h1)]; exact Nat.le_refl _
  · rw [if_neg h1]
    by_cases h2 : x.all (· < 65536) = true
    · rw [if_pos h2, if_pos (sub 65536 h2)]; split <;> omega
    · rw [if_neg h2]; split
      · omega
      · split <;> omega
theorem isAt_mem {x y : List Nat} {i : Nat} (h : isAt x y i = true) : y.length ≤ x.length ∧ ∀ d ∈ y, d ∈ x := by
  unfold isAt at h
  rw [Bool.and_eq_true, decide_eq_true_eq, beq_iff_eq] at h
  refine ⟨by omega, fun d hd => ?_⟩
  rw [← h.2] at hd
  exact List.mem_of_mem_drop (List.mem_of_mem_take hd)
theorem occ0 (x y : List Nat) : occurrences (mkStr' x) (mkStr' y) 0 (mkStr' x).length ((mkStr' x).length + 1) = occG x y (x.length + 1) 0 0 (x.length + 1) := by
  have hl : (mkStr' x).length = x.length := List.size_toArray ..
  rw [hl, occ_list]; rfl
theorem occG_le {x y : List Nat} : ∀ (n i free lim : Nat), ∀ k ∈ occG x y n i free lim, k ≤ x.length
  | 0, i, free, lim, k, h => by cases h
  | n + 1, i, free, lim, k, h => by
    rw [occG_succ] at h
    split at h
    · rename_i q
      rcases List.mem_cons.mp h with rfl | h
      · have := q.2.2; unfold isAt at this; rw [Bool.and_eq_true, decide_eq_true_eq] at this; omega
      · exact occG_le _ _ _ _ k h
    · exact occG_le _ _ _ _ k h
theorem parts_spl {x y : List Nat} (hy : y ≠ []) : (partsBetween (mkStr' x) (occG x y (x.length + 1) 0 0 (x.length + 1)) y.length).map txt = splL y x := by
  have hl : (mkStr' x).length = x.length := List.size_toArray ..
  have e : ∀ q : Nat × Nat, txt (strSub (mkStr' x) q.1 q.2) = (x.drop q.1).take (q.2 - q.1) := fun q => by
    unfold strSub
    show (x.toArray.extract q.1 q.2).toList = _
    rw [List.extract_toArray, List.extract_eq_take_drop]
  unfold partsBetween
  rw [List.map_map, hl]
  have h1 := parts_eq x y.length (occG x y (x.length + 1) 0 0 (x.length + 1)) 0 (occG_le _ _ _ _)
  have h2 := partsF_spl (x := x) hy (x.length + 1) (x.length + 1) 0 0 (x.length + 1) (by omega) (Nat.le_refl _) (Nat.zero_le _) rfl (Nat.le_refl _)
  have h3 : List.map (txt ∘ fun (q : Nat × Nat) => strSub (mkStr' x) q.1 q.2) = List.map (fun q : Nat × Nat => (x.drop q.1).take (q.2 - q.1)) := by
    congr 1; funext q; exact e q
  show List.map (txt ∘ fun (q : Nat × Nat) => strSub (mkStr' x) q.1 q.2) _ = _
  rw [h3, h1, h2]
  show preC [] (splL y x) = splL y x
  cases hs : splL y x with
  | nil => exact absurd hs (splL_ne _ _)
  | cons a t => rfl
/-- where nothing is found -/
theorem splL_none {x y : List Nat} (hy : y ≠ []) (h : occG x y (x.length + 1) 0 0 (x.length + 1) = []) : splL y x = [x] := by
  rw [← parts_spl hy, h]
  show [txt (strSub (mkStr' x) 0 (mkStr' x).length)] = [x]
  have hl : (mkStr' x).length = x.length := List.size_toArray ..
  rw [hl]
  unfold strSub
  show [(x.toArray.extract 0 x.length).toList] = [x]
  simp
theorem none_of {x y : List Nat} (h : ∀ i, isAt x y i = false) : occG x y (x.length + 1) 0 0 (x.length + 1) = [] := occG_none _ _ _ _ fun k _ _ => h k
theorem splitV_eq {x y : List Nat} (hy : y ≠ []) : splitV x y = splL y x := by
  have hl : (mkStr' y).length = y.length := List.size_toArray ..
  have hlx : (mkStr' x).length = x.length := List.size_toArray ..
  unfold splitV Txt.split
  rw [occ0, hl, hlx]
  split
  · rename_i h
    rw [Bool.or_eq_true, decide_eq_true_eq, decide_eq_true_eq] at h
    have h2 : ∀ i, isAt x y i = false := fun i => by
      cases e : isAt x y i with
      | false => rfl
      | true =>
        obtain ⟨q1, q2⟩ := isAt_mem e
        have := kind_le q2
        omega
    rw [splL_none hy (none_of h2)]
    show [txt (mkStr' x)] = [x]; rw [txt_mk]
  · split
    · rename_i h
      rw [splL_none hy (List.isEmpty_iff.mp h)]
      show [txt (mkStr' x)] = [x]; rw [txt_mk]
    · exact parts_spl hy

theorem joinL_one (z x : List Nat) : joinL z [x] = x := by simp [joinL]
theorem replV_eq {x y z : List Nat} (hy : y ≠ []) : replV x y z = joinL z (splL y x) := by
  have hl : (mkStr' y).length = y.length := List.size_toArray ..
  have hpos : 0 < y.length := List.length_pos_iff.mpr hy
  unfold replV Txt.replace
  rw [occ0, hl]
  have h0 : (y.length == 0) = false := by simp; exact hy
  rw [h0, Bool.false_and, Bool.or_false]
  split
  · rename_i h
    rw [splL_none hy (List.isEmpty_iff.mp h), joinL_one, txt_mk]
  · rw [← parts_spl hy, ← joinV_eq]
    unfold joinV
    rw [List.map_map]
    have e : List.map (mkStr' ∘ txt) (partsBetween (mkStr' x) (occG x y (x.length + 1) 0 0 (x.length + 1)) y.length) = partsBetween (mkStr' x) (occG x y (x.length + 1) 0 0 (x.length + 1)) y.length := by
      conv => rhs; rw [← List.map_id (partsBetween (mkStr' x) (occG x y (x.length + 1) 0 0 (x.length + 1)) y.length)]
      exact List.map_congr_left fun q _ => mkStr'_txt q
    rw [e]
    rfl
theorem partsF_len (x : List Nat) (w : Nat) : ∀ (cuts : List Nat) (p : Nat), (partsF x w p cuts).length = cuts.length + 1
  | [], p => rfl
  | k :: ks, p => by show (partsF x w (k + w) ks).length + 1 = _; rw [partsF_len x w ks]; rfl
theorem splL_one_cons (d a : Nat) (r : List Nat) : splL [d] (a :: r) = if a = d then [] :: splL [d] r else headC a (splL [d] r) := by
  by_cases h : a = d
  · subst h
    rw [if_pos rfl, splL_pre (by simp) (by simp [List.isPrefixOf])]
    rfl
  · rw [if_neg h, splL_cons (by simp) (by simp [List.isPrefixOf]; exact fun q => h q.symm)]
theorem headC_len (a : Nat) (l : List (List Nat)) (h : l ≠ []) : (headC a l).length = l.length := by
  cases l with
  | nil => exact absurd rfl h
  | cons p ps => rfl
theorem splL_one_len (d : Nat) : ∀ l : List Nat, (splL [d] l).length = l.count d + 1
  | [] => by rw [splL_nil (by simp)]; rfl
  | a :: r => by
    have ih := splL_one_len d r
    rw [splL_one_cons, List.count_cons]
    by_cases h : a = d
    · rw [if_pos h]; simp [h, ih]
    · rw [if_neg h, headC_len _ _ (splL_ne _ _), ih]; simp [h]
end Mine

end
section
open PySem PySem.Calls PySem.W PyProof.Rows
set_option Elab.async false
set_option autoImplicit false
set_option linter.unusedVariables false
set_option maxRecDepth 100000
namespace Mine
section
variable {c : C}
noncomputable abbrev ixT : IX := ⟨fun _ => none, 1, 0⟩
/-- a call from outside of a function of one argument, without cells -/
theorem own_top {A : Around} {s : Shared} {fz : FM} {a : Addr} {fd : FuncData} {body : List Stmt} {p : Str} {v : Value} {l x y : V} {n' : Nat} {Q : Value → Shared → Prop} {E : Value → Shared → Prop} (F : FnAt c.h₀ a fd body [p]) (hc : ∀ z ∈ fd.scope.names, z.2 ≠ .cell) (hpar : fd.scope.names.lookup p = some .local) {σ' : Sg}
    (hb : ExS c false n' fd.scope (execs body) ⟨argm [p] [l] fun _ => none, fun _ => none, 0⟩ (.ret x) σ') (hf : Frz σ'.mu 0 x y) (hA : Room (n' + 1) A) (base : ∀ b o, c.h₀.get? b = some o → fz b = some o) (fzh : ∀ b o, fz b = some o → s.heap.get? b = some o) (tab : T81 s.heap) (t81 : fz 81 = none) (rv : R fz ixT v l)
    (h : ∀ v s' fz', Nx false s fz s' fz' → R fz' ixT v y → Q v s') : wpAny c.M A (call (.ref a) [v]) Q E s := by
  obtain ⟨o, ho, hd⟩ := F.obj
  have hroom : A.depth < recursionLimit := by have := hA.2.1; omega
  have hst : ∀ b o, c.h₀.get? b = some o → s.heap.get? b = some o := fun b o e => fzh _ _ (base _ _ e)
  refine wpAny_call (codeAny_call_function hroom (hst _ _ ho) hd F.co F.gen F.body (F.cd.keeps hst) ?_)
  rw [F.bind [v] rfl, F.clo]
  refine wpAny_pure (wpAny_newFunctionEnv hc (fun z hz => ?_) (fun h1 hns sb => ?_) F.kind)
  · rw [List.mem_singleton.mp (show z ∈ [(p, v)] from hz)]; exact hpar
  have hkeep : ∀ d oo, s.heap.get? d = some oo → h1.get? d = some oo := fun d oo e => by
    have hne : d ≠ s.heap.objs.size := Nat.ne_of_lt (Heap.lt_size e)
    exact (sb.2 d hne).trans (Heap.get?_push_of_some _ e)
  refine ⟨(c.hB.nolim.keeps hst).keeps hkeep, codeAny_func ?_⟩
  have high : ∀ d, s.heap.objs.size ≤ d → s.heap.get? d = none := fun d hd' => Heap.get?_none_of_le hd'
  have hfz : ∀ d, s.heap.objs.size ≤ d → fz d = none := fun d hd' => by
    cases e : fz d with
    | none => rfl
    | some oo => have := fzh _ _ e; rw [high d hd'] at this; cases this
  have htab : T81 h1 := let ⟨q, e1, e2⟩ := tab; ⟨q, e1, hkeep _ _ e2⟩
  have nx : Nx false s fz { s with heap := h1, toks := s.toks + 1 } fz := ⟨⟨h1, s.toks + 1, rfl⟩, FM.le_refl _, fun d oo e => hkeep _ _ (fzh _ _ e), fun _ _ e => .inl e, fun d oo _ e => hkeep _ _ e, htab, Nat.le_succ _⟩
  have st : St c false s fz ixT fz ixT (newEnv fd.scope s.heap.objs.size fd.globals [] (fd.qualname ++ Str.ofString ".<locals>.") (some a) fd.code none fd.builtins) { s with heap := h1, toks := s.toks + 1 } ⟨argm [p] [l] fun _ => none, fun _ => none, 0⟩ := {
    rd := {
      ek := F.kind
      eg := F.glob
      eb := F.bn
      base := base
      fzh := fun d oo e => hkeep _ _ (fzh _ _ e)
      tab := htab
      t81 := t81
      loc := ⟨⟨_, hns, fun z w hz hk => by
          have hz' : upd (fun _ => none) p l z = some w := hz
          by_cases q : z = p
          · subst q
            rw [upd_self] at hz'; cases hz'
            exact ⟨v, by simp [List.lookup_cons], rv⟩
          · rw [upd_ne q] at hz'; cases hz'⟩, fun z w hz hk => by
          have hz' : upd (fun _ => none) p l z = some w := hz
          by_cases q : z = p
          · subst q
            have hk' : fd.scope.names.lookup z = some .cell ∨ fd.scope.names.lookup z = some .free := hk
            rw [hpar] at hk'; rcases hk' with hk' | hk' <;> cases hk'
          · rw [upd_ne q] at hz'; cases hz'⟩
      mus := fun i cl e => by cases e
      t0 := Nat.le_refl _
      tT := by show 1 ≤ s.toks + 1; omega
      dom := fun i d e => by cases e
      ixh := fun i d e => by cases e
      inj := fun i k d e _ => by cases e
      ecd := F.cds }
    nx := nx
    le := IX.le_refl _
    n := rfl
    loc0 := high _ (Nat.le_refl _)
    locF := hfz _ (Nat.le_refl _)
    locI := fun i e => by cases e
    cel := fun z d e => by cases e
    celA := fun z z' d e _ => by cases e
    celE := fun z e => by
      have e' : fd.scope.names.lookup z = some .cell := e
      exact absurd rfl (hc _ (mem_of_lookup e'))
    ixn := fun _ _ e => .inl e
    ixk := ⟨Nat.le_refl _, fun _ _ => rfl⟩
    own := fun i cl d e => by cases e
    inj := fun i k d e _ => by cases e }
  refine hb (A.deeper _) _ _ s fz fz ixT ixT _ _ ?_ rfl st fun fl s' fz' ix' st' k => ?_
  · refine ⟨hA.1, ?_, ?_⟩
    · have := hA.2.1; show A.depth + 1 + 3 * n' + 10 < recursionLimit; omega
    · have := hA.2.2; show A.units + 3 + 20 * n' + 400 < cLine; omega
  · cases k with
    | ret r => exact h _ _ _ st'.freeze (hf.sound st' (fun i hi d e => absurd hi (Nat.not_lt_zero _)) _ r)
end
end Mine

end
section
open PySem PySem.Calls PySem.W PyProof.Rows
set_option Elab.async false
set_option autoImplicit false
set_option linter.unusedVariables false
set_option maxRecDepth 100000
namespace Mine
noncomputable def objAt (K : Frag) (a : Addr) : Obj := match K.lookup a with
  | some o => o
  | none => { cls := .none }
noncomputable def fdAt (K : Frag) (a : Addr) : FuncData := match (objAt K a).data with
  | .func fd => fd
  | _ => default
noncomputable def parOk (ps : List Str) (s : Scope) : Bool := ps.all fun y => decide (s.names.lookup y = some .local) || decide (s.names.lookup y = some .cell)
theorem fnIs_of {P : Program} {K : Frag} {h : Heap} (X : K.In h) {a : Addr} {k : Nat} {ps : List Str} (hl : K.lookup a = some (objAt K a)) (hd : (objAt K a).data = .func (fdAt K a)) (hb : (fdAt K a).body = .stmts (bodyAt P k)) (h1 : (fdAt K a).closure = []) (h2 : (fdAt K a).globals = mainGlobals) (h3 : (fdAt K a).builtins = builtinsNs)
    (h4 : codeIn K (fdAt K a).code (fdAt K a).qualname = true) (h5 : (fdAt K a).scope = scopeAt P k) (h6 : (scopeAt P k).kind = .function) (h7 : (scopeAt P k).isCoroutine = false) (h8 : (scopeAt P k).isGenerator = false) (h9 : parOk ps (scopeAt P k) = true) (h10 : (scopeAt P k).names.lookup ("stuff" : Str) ≠ some .local ∨ (fdAt K a).code = .ref 85)
    (h11 : ∀ vs : List Value, vs.length = ps.length → bindArgs (fdAt K a) ⟨vs, []⟩ = pure (ps.zip vs)) : FnIs P h a k ps :=
  ⟨fdAt K a, ⟨⟨_, X _ _ hl, hd⟩, hb, h1, h2, h3, codeRec_of X h4, by rw [h5]; exact h6, by rw [h5]; exact h7, by rw [h5]; exact h8, h11, fun y hy => by
    have := List.all_eq_true.mp h9 y hy
    rw [Bool.or_eq_true, decide_eq_true_eq, decide_eq_true_eq] at this
    rw [h5]; exact this, fun e => by
    rcases h10 with q | q
    · rw [h5] at e; exact absurd e q
    · exact q⟩, h5⟩
/-- the table of the special characters -/
noncomputable def esAt (K : Frag) (a : Addr) : Array DictEntry := match (objAt K a).data with
  | .dict es _ => es
  | _ => #[]
noncomputable def nAt (K : Frag) (a : Addr) : Nat := match (objAt K a).data with
  | .dict _ n => n
  | _ => 0
noncomputable def tabKey (e : DictEntry) : Bool := match e.key with
  | .int i _ => decide (0 ≤ i) && (decide (i.toNat ∈ specials) && decide (e.hash = hashInt i))
  | _ => false
noncomputable def tabHit (es : Array DictEntry) (k : Nat) : Bool := match findBy Value.isInt es (k : Int) with
  | some (.str s _) => decide (s = ⟨#[92, k]⟩)
  | _ => false
theorem tabOk_of {K : Frag} {h : Heap} (X : K.In h) {a : Addr} (ha : (a == sysModules) = false) (hl : K.lookup a = some ⟨.type "dict", none, .dict (esAt K a) (nAt K a), #[]⟩) (h1 : (esAt K a).toList.all tabKey = true) (h2 : specials.all (tabHit (esAt K a)) = true) : TabOk h a := by
  have hkey : ∀ e ∈ (esAt K a).toList, ∃ i t, e.key = .int i t ∧ 0 ≤ i ∧ i.toNat ∈ specials ∧ e.hash = hashInt i := fun e he => by
    have := List.all_eq_true.mp h1 e he
    unfold tabKey at this
    split at this
    · rename_i i t hk
      rw [Bool.and_eq_true, Bool.and_eq_true, decide_eq_true_eq, decide_eq_true_eq, decide_eq_true_eq] at this
      exact ⟨i, t, hk, this.1, this.2.1, this.2.2⟩
    · cases this
  refine ⟨ha, fun k => findBy Value.isInt (esAt K a) k, fun prog w => ⟨_, esAt K a, nAt K a, X _ _ hl, ⟨rfl, rfl, rfl⟩, rfl, fun e he => ?_, fun k => rfl⟩, fun k => ⟨fun hk => ?_, fun hk => ?_⟩⟩
  · obtain ⟨i, t, e1, _, _, e2⟩ := hkey e (Array.mem_toList_iff.mpr he)
    exact ⟨i, by rw [e1]; simp [intKind, Value.isInt], e2⟩
  · show findBy Value.isInt (esAt K a) (k : Int) = none
    unfold findBy
    rw [show (esAt K a).find? (fun e => Value.isInt (k : Int) e.key) = none from ?_]
    · rfl
    · rw [Array.find?_eq_none]
      intro e he hm
      obtain ⟨i, t, e1, e2, e3, _⟩ := hkey e (Array.mem_toList_iff.mpr he)
      rw [e1] at hm
      have : i = (k : Int) := by simpa [Value.isInt] using hm
      subst this
      exact hk (by simpa using e3)
  · have := List.all_eq_true.mp h2 k hk
    unfold tabHit at this
    split at this
    · rename_i s t hs
      exact ⟨t, hs.trans (by rw [of_decide_eq_true this])⟩
    · cases this
/-- the start of a proof -/
theorem base_of {K : Frag} {s : Shared} {p : Program} {loose : List Str} {mean : ExcName → Option Value} {mg mb : Str → Option Value} (X : K.In s.heap) (T : Top p loose mean mg mb s.heap) (hT : TabsAt [(85, 81)] s.heap) (hn : noTabs K = true) : Base K (ghostOf s.heap [(85, 81)]) := by
  have T' := ghost_top hT T
  exact ⟨ghost_K hT X hn, T'.nolimit, ⟨mb, T'.b, T'.builtins⟩, (ghost_code hT).1, let ⟨bm, ob, q⟩ := T'.bmain; ⟨mg, bm, ob, T'.g, q⟩⟩
/-- what has grown is but the code's table -/
theorem old_of {s s' : Shared} (hT : TabsAt [(85, 81)] s.heap) (k : Kp false s.heap s'.heap) (t : T81 s'.heap) : OldK s.heap s'.heap := by
  obtain ⟨hc, hp⟩ := hT (85, 81) (List.mem_singleton.mpr rfl)
  obtain ⟨ps, _, e'⟩ := t
  refine ⟨fun b o e => ?_, fun b o e => ?_⟩
  · by_cases hb : b = 81
    · subst hb
      rw [hp] at e
      cases e
      exact .inr (.inl ⟨(hc.tab hp).isCodeTable, rfl, #[], ps, rfl, by rw [Array.empty_append]; exact e'⟩)
    · exact .inl (k b o (.inr hb) e)
  · by_cases hb : b = 81
    · subst hb; exact ⟨_, e'⟩
    · exact ⟨o, k b o (.inr hb) e⟩
theorem rs_ints {vs : List Value} {ns : List Int} (hI : IntsAre vs ns) (fz : FM) (ix : IX) : Rs fz ix vs (ns.map .int) := by
  induction hI with
  | nil => exact .nil
  | cons => exact .cons (.int _ _) (by assumption)
end Mine

end
open PySem PySem.Calls PySem.W PyProof.Rows Mine
/- reads a name's value -/
local macro_rules | `(tactic| walk_at "lk") => `(tactic| first | with_reducible assumption | (simp only [Sg.set, Sg.new, Sg.put, argm, upd, updM, strEq, String.reduceEq, if_true, if_false, reduceIte]; first | with_reducible assumption | rfl) | rfl | assumption)
/- the kind of a name -/
local macro_rules | `(tactic| walk_at "kd") => `(tactic| first | exact .inl (by kernel_rfl) | exact .inr (.inl (by kernel_rfl)) | exact .inr (.inr (by kernel_rfl)) | exact .inr (by kernel_rfl))
local macro_rules | `(tactic| walk_at "nm") => `(tactic| exact (by decide +kernel))
local macro_rules | `(tactic| walk_at "cn") => `(tactic| first | ((conv => lhs; simp [strCps]) <;> rfl) | rfl)
local macro_rules | `(tactic| walk_at "sz") => `(tactic| first | assumption | (simp [sizeLine_eq]; done) | (rw [sizeLine_eq]; omega) | (simp [sizeLine_eq] at *; done) | (simp [sizeLine_eq] at *; omega) | (rw [sizeLine_eq]; exact of_decide_eq_true rfl))
/- a name, a text -/
local macro_rules | `(tactic| walk_at "n") => `(tactic| exact EvS.name (by walk_at "lk") (by walk_at "kd") (by walk_at "nm") (by walk_at "nm"))
local macro_rules | `(tactic| walk_at "s") => `(tactic| exact EvS.const (by walk_at "cn") (by walk_at "sz"))
/- a name that is a cell -/
local macro_rules | `(tactic| walk_at "nc") => `(tactic| exact EvS.name (by walk_at "lk") (.inr (.inl (by kernel_rfl))) (by walk_at "nm") (by walk_at "nm"))

section
open PySem PySem.Calls PySem.W PyProof.Rows
set_option Elab.async false
set_option autoImplicit false
set_option linter.unusedVariables false
set_option maxRecDepth 100000
namespace Mine
noncomputable def asgV : Option Stmt → PySem.Expr
  | some (.Assign _ e _) => e
  | some (.Return (some e) _) => e
  | _ => .Constant .none 0 default
noncomputable def cElt : PySem.Expr → PySem.Expr
  | .ListComp e _ _ _ => e
  | e => e
noncomputable def cIfs : PySem.Expr → List PySem.Expr
  | .ListComp _ (g :: _) _ _ => g.ifs
  | _ => []
noncomputable def cScope : PySem.Expr → Scope
  | .ListComp _ _ s _ => s
  | _ => default
noncomputable def isFree (y : Str × NameKind) : Bool := decide (y.2 = NameKind.free)
noncomputable def freeNames (s : Scope) : List Str := (s.names.filter isFree).map (·.1)
noncomputable def cOk1 (s : Scope) : Bool := s.names.all fun y => decide (y.2 ≠ .cell) && (decide (y.2 ≠ .local) || decide (s.names.lookup y.1 = some .local))
noncomputable def cOk2 (s sc : Scope) : Bool := (freeNames s).all fun y => (decide (sc.names.lookup y = some .cell) || decide (sc.names.lookup y = some .free)) && (decide ((relS s sc).names.lookup y = some .cell) || decide ((relS s sc).names.lookup y = some .free))
theorem mem_free {s : Scope} {y : Str} : y ∈ freeNames s ↔ (y, NameKind.free) ∈ s.names := by
  unfold freeNames isFree
  rw [List.mem_map]
  constructor
  · rintro ⟨q, h1, rfl⟩
    rw [List.mem_filter] at h1
    obtain ⟨h1, h2⟩ := h1
    obtain ⟨a, k⟩ := q
    have h2 := of_decide_eq_true h2
    dsimp at h2; subst h2; exact h1
  · intro h; exact ⟨(y, .free), List.mem_filter.mpr ⟨h, by simp⟩, rfl⟩
theorem CompOk.mk' {s sc : Scope} {m : Loc} {x : Str} {fs : List Str} (hf : freeNames s = fs) (h1 : cOk1 s = true) (h2 : cOk2 s sc = true) (h3 : s.kind = .function) (h4 : s.names.lookup x = some .local) (h5 : (relS s sc).names.lookup ("stuff" : Str) ≠ some .local) (h6 : ∀ y ∈ fs, (m y).isSome = true) : CompOk s sc m x where
  cell := fun y hy => by
    have := List.all_eq_true.mp h1 y hy
    simp only [Bool.and_eq_true, decide_eq_true_eq] at this
    exact this.1
  kind := h3
  names := fun y hy hl => by
    have := List.all_eq_true.mp h1 y hy
    simp only [Bool.and_eq_true, Bool.or_eq_true, decide_eq_true_eq] at this
    rcases this.2 with q | q
    · exact absurd hl q
    · exact q
  x := h4
  st := h5
  free := fun y hy => by
    have hm := mem_free.mpr hy
    have := List.all_eq_true.mp h2 y hm
    simp only [Bool.and_eq_true, Bool.or_eq_true, decide_eq_true_eq] at this
    exact ⟨this.1, h6 y (hf ▸ hm), this.2⟩
theorem compM_x {m : Loc} {s : Scope} {x : Str} {v : V} : compM m s x v x = some v := if_pos rfl
theorem compM_free {m : Loc} {s : Scope} {x y : Str} {v : V} (hne : (y == x) = false) (hf : (freeNames s).contains y = true) : compM m s x v y = m y := by
  unfold compM
  have h1 : y ≠ x := by simpa using hne
  rw [if_neg h1, if_pos (mem_free.mp (by simpa using hf))]

end Mine

end
section
open PySem PySem.Calls PySem.W PyProof.Rows
set_option Elab.async false
set_option autoImplicit false
set_option linter.unusedVariables false
set_option maxRecDepth 100000
namespace Mine
noncomputable abbrev P1 := PySem.Challenge.pw_in0038_02
noncomputable abbrev U := Bool × List Nat
noncomputable def uV (q : U) : V := .tup [.bool q.1, .str q.2]
/-- the facts of the second law's module -/
structure Wd1 (c : C) : Prop where
  w : Wd c
  F48 : FnIs P1 c.h₀ 48 5 ["data"]
  F55 : FnIs P1 c.h₀ 55 6 ["data"]
  F67 : FnIs P1 c.h₀ 67 9 ["pat"]
  F79 : FnIs P1 c.h₀ 79 12 ["pattern"]
  F86 : FnIs P1 c.h₀ 86 14 ["pat", "STAR", "QUESTION_MARK"]
  F93 : FnIs P1 c.h₀ 93 15 ["inp", "STAR"]
  F100 : FnIs P1 c.h₀ 100 17 ["script"]
  F107 : FnIs P1 c.h₀ 107 18 ["mail"]
  F112 : FnIs P1 c.h₀ 112 19 ["items", "signs"]
  F119 : FnIs P1 c.h₀ 119 20 ["items", "rows"]
  F126 : FnIs P1 c.h₀ 126 21 ["group"]
  F133 : FnIs P1 c.h₀ 133 22 ["text", "k", "heard"]
  F140 : FnIs P1 c.h₀ 140 23 ["piece", "heard", "due"]
  g100 : Glob c.K "_law_plan" (.ref 100)
  g107 : Glob c.K "_law_rows" (.ref 107)
  g112 : Glob c.K "_law_fits" (.ref 112)
  g119 : Glob c.K "_law_due" (.ref 119)
  g126 : Glob c.K "_law_units" (.ref 126)
  g133 : Glob c.K "_law_through" (.ref 133)
  g140 : Glob c.K "_law_counts" (.ref 140)

end Mine

end
section
open PySem PySem.Calls PySem.W PyProof.Rows
set_option Elab.async false
set_option autoImplicit false
set_option linter.unusedVariables false
set_option maxRecDepth 100000
namespace Mine
variable {c : C}
theorem small_nat {a z : Int} (h0 : 0 ≤ a) (h1 : a ≤ 100000) (h2 : 0 ≤ z) (h3 : z ≤ 100000) : Builtin.Range.small a z 1 = true := by
  unfold Builtin.Range.small
  rw [rangeSize_one]
  simp [Builtin.Range.rangeFitsLong]
  split <;> omega
theorem rng_ints {a z : Nat} (h : a ≤ z) : rngInts (a : Int) (z : Int) 1 = ((List.range' a (z - a)).map fun (k : Nat) => (k : Int)) := by
  unfold rngInts
  have e : (Builtin.Range.rangeSize (a : Int) (z : Int) 1).toNat = z - a := by rw [rangeSize_one]; split <;> omega
  rw [e]
  apply List.ext_getElem?
  intro i
  rw [List.getElem?_map, List.getElem?_map]
  rcases Nat.lt_or_ge i (z - a) with q | q
  · rw [List.getElem?_range q, List.getElem?_range' q]; simp
  · rw [List.getElem?_eq_none (by simpa using q), List.getElem?_eq_none (by simpa using q)]; rfl
noncomputable def nV (l : List Nat) : List V := l.map fun (k : Nat) => V.int (k : Int)
theorem rng_nV {a z : Nat} (h : a ≤ z) : (rngInts (a : Int) (z : Int) 1).map V.int = nV (List.range' a (z - a)) := by
  rw [rng_ints h, List.map_map]; rfl
theorem itr_nat (z : Nat) (h : z ≤ 1000) : Itr (.rng 0 (z : Int) 1) (nV (List.range z)) := by
  have e := rng_nV (a := 0) (z := z) (Nat.zero_le _)
  have h1 : (rngInts ((0 : Nat) : Int) (z : Int) 1).map V.int = nV (List.range z) := by
    rw [e, List.range_eq_range']; rfl
  rw [← h1]
  exact Itr.rng 0 (z : Int) 1 (small_nat (by omega) (by omega) (by omega) (by omega)) (rangeSize_nonneg _ _)
theorem nV_ints (l : List Nat) : nV l = (l.map fun (k : Nat) => (k : Int)).map .int := by rw [List.map_map]; rfl
theorem nV_of (l : List Nat) : intsOf (nV l) = some (l.map fun (k : Nat) => (k : Int)) := by rw [nV_ints]; exact intsOf_map _
/-- may this sign stand here -/
noncomputable def fits (u : Bool × List Nat) (d : Nat) : Bool := !(decide (d ∈ u.2) == u.1)
/-- range(n - 1, -1, -1) -/
theorem rng_down (n : Nat) : (rngInts ((n : Int) - 1) (-1) (-1)).map V.int = nV (List.range n).reverse := by
  unfold rngInts nV
  have e : (Builtin.Range.rangeSize ((n : Int) - 1) (-1) (-1)).toNat = n := by
    unfold Builtin.Range.rangeSize
    rw [if_neg (by decide)]
    split <;> simp <;> omega
  rw [e, List.map_map]
  apply List.ext_getElem?
  intro i
  rw [List.getElem?_map, List.getElem?_map]
  rcases Nat.lt_or_ge i n with q | q
  · rw [List.getElem?_range q, List.getElem?_reverse (by simpa using q), List.length_range, List.getElem?_range (by omega)]
    show some (V.int ((n : Int) - 1 + (i : Int) * (-1))) = some (V.int ((n - 1 - i : Nat) : Int))
    congr 2; omega
  · rw [List.getElem?_eq_none (by simpa using q), List.getElem?_eq_none (by simpa using q)]; rfl
theorem itr_down (n : Nat) (h : n ≤ 1000) : Itr (.rng ((n : Int) - 1) (-1) (-1)) (nV (List.range n).reverse) := by
  rw [← rng_down]
  refine Itr.rng _ _ _ ?_ ?_
  · unfold Builtin.Range.small Builtin.Range.rangeSize
    rw [if_neg (by decide)]
    simp [Builtin.Range.rangeFitsLong]
    split <;> omega
  · unfold Builtin.Range.rangeSize
    rw [if_neg (by decide)]
    split <;> simp <;> omega
theorem rng_from (a z : Nat) (h : a ≤ z) (hz : z ≤ 1000) : Itr (.rng (a : Int) (z : Int) 1) (nV (List.range' a (z - a))) := by
  rw [← rng_nV h]
  exact Itr.rng _ _ _ (small_nat (by omega) (by omega) (by omega) (by omega)) (rangeSize_nonneg _ _)
end Mine

end
section
open PySem PySem.Calls PySem.W PyProof.Rows
set_option Elab.async false
set_option autoImplicit false
set_option linter.unusedVariables false
set_option maxRecDepth 100000
namespace Mine
/-- a piece of a pattern that _translate reads -/
inductive Pa where
  | star
  | qm
  | ch (d : Nat)
  | cls (s : List Nat)
noncomputable def txA : Pa → List Nat
  | .star => [42]
  | .qm => [63]
  | .ch d => [d]
  | .cls s => 91 :: s ++ [93]
noncomputable def okA : Pa → Prop
  | .ch d => d ≠ 42 ∧ d ≠ 63 ∧ d ≠ 91
  | .cls s => s ≠ [] ∧ s ≠ [33] ∧ ∀ d ∈ s, tame d
  | _ => True
noncomputable def txL (l : List Pa) : List Nat := (l.map txA).flatten
noncomputable def clsB : List Nat → List Nat
  | 33 :: t => 94 :: t
  | s => s
noncomputable def clsT (s : List Nat) : List Nat := 91 :: clsB s ++ [93]
/-- what stands for a piece; none: the star -/
noncomputable def paT (q : List Nat) : Pa → Option (List Nat)
  | .star => none
  | .qm => some q
  | .ch d => some (escC d)
  | .cls s => some (clsT s)
noncomputable def trStep (q : List Nat) (acc : List (Option (List Nat))) (a : Pa) : List (Option (List Nat)) :=
  match paT q a with
  | none => if acc.getLast? = some none then acc else acc ++ [none]
  | some t => acc ++ [some t]
noncomputable def trL (q : List Nat) (l : List Pa) : List (Option (List Nat)) := l.foldl (trStep q) []
noncomputable def ptV (k : Nat) : Option (List Nat) → V
  | none => .ml k
  | some t => .str t
theorem trStep_len (q : List Nat) (acc : List (Option (List Nat))) (a : Pa) : (trStep q acc a).length ≤ acc.length + 1 := by
  unfold trStep; split
  · split <;> simp
  · simp
theorem splL_notin {d : Nat} : ∀ {l : List Nat}, d ∉ l → splL [d] l = [l]
  | [], _ => splL_nil (by simp)
  | a :: r, h => by
    rw [splL_one_cons, if_neg (by rintro rfl; exact h (List.mem_cons_self ..)), splL_notin (fun q => h (List.mem_cons_of_mem _ q))]; rfl
theorem replV_notin {l z : List Nat} {d : Nat} (h : d ∉ l) : replV l [d] z = l := by
  rw [replV_eq (by simp), splL_notin h, joinL_one]

end Mine

end
section
open PySem PySem.Calls PySem.W PyProof.Rows
set_option Elab.async false
set_option autoImplicit false
set_option linter.unusedVariables false
set_option maxRecDepth 100000
namespace Mine
variable {c : C} {b : Bool} {n N : Nat}
theorem fix_ok (W : Wd c) (t : List Nat) (hl : t.length ≤ 50000) : FnS P1 c b n 6 ["data"] [.str t] (.str (fixE t)) N := by
  obtain ⟨tk, hcr⟩ := W.crlf
  have hsz : t.length ≤ sizeLine := by rw [sizeLine_eq]; omega
  refine ⟨_, _, ExS.one (ExS.ret fun ix hN => ?_), .str _⟩
  exact EvS.meth (T := "re.Pattern") (id := "re.Pattern.sub") (a := .con 41) (l := [.str [13, 10], .str t]) (fun _ => rfl) (by decide) (by rfl) pa_pattern slot_sub type_sub (pat_TypeIs W.p41)
    (EvS.glob W.g41 (by kernel_rfl) (by walk_at "nm") (fun fz => .con 41)) (by rfl)
    (EvL.cons (by rfl) (EvS.glob hcr (by kernel_rfl) (by walk_at "nm") fun fz => .str [13, 10] tk (by rw [sizeLine_eq]; decide)) (EvL.cons (by rfl) (by walk_at "n") EvL.nil)) (OpN.subE W.p41 (by omega))
theorem quote_ok (W : Wd c) (t : List Nat) (hl : t.length ≤ 50000) : FnS P1 c b n 5 ["data"] [.str t] (.str (dotAll true (fixE t))) N := by
  obtain ⟨tk, hcr⟩ := W.crlf
  have h1 := fixE_length t
  refine ⟨_, _, ExS.one (ExS.ret fun ix hN => ?_), .str _⟩
  exact EvS.meth (T := "re.Pattern") (id := "re.Pattern.sub") (a := .con 36) (l := [.str [46, 46], .str (fixE t)]) (fun _ => rfl) (by decide) (by rfl) pa_pattern slot_sub type_sub (pat_TypeIs W.p36)
    (EvS.glob W.g36 (by kernel_rfl) (by walk_at "nm") (fun fz => .con 36)) (by rfl)
    (EvL.cons (by rfl) (by walk_at "s") (EvL.cons (by rfl) (EvS.meth (T := "re.Pattern") (id := "re.Pattern.sub") (a := .con 41) (l := [.str [13, 10], .str t]) (fun _ => rfl) (by decide) (by rfl) pa_pattern slot_sub type_sub (pat_TypeIs W.p41)
      (EvS.glob W.g41 (by kernel_rfl) (by walk_at "nm") (fun fz => .con 41)) (by rfl)
      (EvL.cons (by rfl) (EvS.glob hcr (by kernel_rfl) (by walk_at "nm") fun fz => .str [13, 10] tk (by rw [sizeLine_eq]; decide)) (EvL.cons (by rfl) (by walk_at "n") EvL.nil)) (OpN.subE W.p41 (by omega))) EvL.nil)) (OpN.subD W.p36 (by omega))
theorem escape_ok (W : Wd c) (d : Nat) : FnS P1 c b n 12 ["pattern"] [.str [d]] (.str (escC d)) N := by
  refine ⟨_, ⟨argm ["pattern"] [.str [d]] fun _ => none, fun _ => none, N⟩, ExS.one (ExS.ifs (t := true) (fun ix hN => ?_) (fun _ => ?_) (fun h => by cases h)), .str _⟩
  · exact EvT.plain (by rfl) (EvS.callf W.isi (by kernel_rfl) (by walk_at "nm") (fun a => nofun) (by rfl) (EvL.cons (by rfl) (by walk_at "n") (EvL.cons (by rfl) (EvS.glob W.str (by kernel_rfl) (by walk_at "nm") fun fz => .ty "str") EvL.nil)) OpN.isi_str) OpT.bool
  · exact ExS.one (ExS.ret fun ix hN => EvS.meth (T := "str") (id := "str.translate") (fun _ => rfl) (by decide) (by rfl) PySem.F.plainAttrs_str PySem.F.slot_str_translate PySem.F.type_str_translate str_TypeIs (by walk_at "n") (by rfl) (EvL.cons (by rfl) (EvS.glob W.g69 (by kernel_rfl) (by walk_at "nm") fun fz => .con 69) EvL.nil) (OpN.translate W.t69))

end Mine

end
section
open PySem PySem.Calls PySem.W PyProof.Rows
set_option Elab.async false
set_option autoImplicit false
set_option linter.unusedVariables false
set_option maxRecDepth 100000
namespace Mine
noncomputable abbrev b14 : List Stmt := bodyAt P1 14
noncomputable abbrev s14 : Scope := scopeAt P1 14
noncomputable abbrev g14 : List Stmt := inFor b14 3
noncomputable abbrev sq14 : List Stmt := inIf (inElse (inElse g14 2) 0) 0
variable {c : C} {n N : Nat}
noncomputable abbrev q14 : List Stmt := inElse (inElse (inElse g14 2) 0) 0
/-- the state of the loop -/
structure TrS (m : Loc) (mu : MU) (pat q : List Nat) (k r : Nat) (i : Nat) (acc : List (Option (List Nat))) : Prop where
  hpat : m "pat" = some (.str pat)
  star : m "STAR" = some (.ml k)
  qm : m "QUESTION_MARK" = some (.str q)
  res : m "res" = some (.ml r)
  add : m "add" = some (.app r)
  i : m "i" = some (.int (i : Int))
  n : m "n" = some (.int (pat.length : Int))
  mu : mu r = some (.list (acc.map (ptV k)))
theorem tr_head (W : Wd c) (m : Loc) (mu : MU) (pre r : List Nat) (d : Nat) (h1 : m "pat" = some (.str (pre ++ d :: r))) (h2 : m "i" = some (.int (pre.length : Int))) (hl : pre.length ≤ 100000) : ∀ {f : Fl} {σ' : Sg}, ExS c false n s14 (execs (g14.drop 2)) ⟨upd (upd m "c" (.str [d])) "i" (.int ((pre.length + 1 : Nat) : Int)), mu, N⟩ f σ' → ExS c false n s14 (execs g14) ⟨m, mu, N⟩ f σ' := fun hrest => by
  have hx : (pre ++ d :: r)[pre.length]? = some d := by simp
  have hidx : seqIndex? (pre.length : Int) (pre ++ d :: r).length = some pre.length := seqIdx_nat (by simp)
  exact ExS.cons (ExS.assign (x := .str [d]) (fun ix hN => EvS.item (by walk_at "n") (by walk_at "n") (.str _) (Op2.item_str hidx hx (by omega))) (by walk_at "kd") (fun _ => rfl))
    (ExS.cons (ExS.assign (x := .int ((pre.length + 1 : Nat) : Int)) (fun ix hN => EvS.binop (by walk_at "n") EvS.cint Op2.add_int) (by walk_at "kd") (fun _ => rfl)) hrest)
theorem idx_neg {α : Type} {l : List α} (h : l ≠ []) : seqIndex? (-1) l.length = some (l.length - 1) := by
  have h0 : 0 < l.length := List.length_pos_iff.mpr h
  unfold seqIndex?
  have e : (if (-1 : Int) < 0 then (-1 : Int) + (l.length : Int) else -1) = ((l.length - 1 : Nat) : Int) := by rw [if_pos (by decide)]; omega
  rw [e]
  dsimp only
  rw [if_pos (by simp; omega), Int.toNat_natCast]
theorem tr_star (W : Wd1 c) (m : Loc) (mu : MU) (pre r q : List Nat) (k rr : Nat) (acc : List (Option (List Nat))) (S : TrS m mu (pre ++ 42 :: r) q k rr pre.length acc) (hl : pre.length ≤ 100000) (ha : acc.length ≤ 100000) :
    ∃ m' mu', ExS c false (n + 1) s14 (execs g14) ⟨m, mu, N⟩ .next ⟨m', mu', N⟩ ∧ TrS m' mu' (pre ++ 42 :: r) q k rr (pre.length + 1) (trStep q acc .star) := by
  have S1 := S.hpat; have S2 := S.i; have S3 := S.res; have S4 := S.star; have S5 := S.add; have S6 := S.mu; have S7 := S.n; have S8 := S.qm
  have hlast : ∀ x, acc.getLast? = some x → (acc.map (ptV k))[(acc.map (ptV k)).length - 1]? = some (ptV k x) := fun x hx => by
    rw [List.getLast?_eq_getElem?] at hx
    rw [List.getElem?_map, List.length_map, hx]; rfl
  have hml : ∀ x, isMl k (ptV k x) = some (decide (x = none)) := fun x => by
    cases x with
    | none => show (if k = k then some true else none) = _; rw [if_pos rfl]; simp
    | some t => rfl
  have hx : (pre ++ 42 :: r)[pre.length]? = some 42 := by simp
  have fin : ∀ (m' : Loc) (mu' : MU) (acc' : List (Option (List Nat))), m' = upd (upd m "c" (.str [42])) "i" (.int ((pre.length + 1 : Nat) : Int)) → mu' rr = some (.list (acc'.map (ptV k))) → TrS m' mu' (pre ++ 42 :: r) q k rr (pre.length + 1) acc' := fun m' mu' acc' e e2 => by
    subst e
    exact ⟨by walk_at "lk", by walk_at "lk", by walk_at "lk", by walk_at "lk", by walk_at "lk", by walk_at "lk", by walk_at "lk", e2⟩
  have test : ∀ (m : Loc) t, m "res" = some (.ml rr) → m "STAR" = some (.ml k) → decide (acc.getLast? = some none) = t → TvJ c false (n + 1) s14 ⟨m, mu, N⟩ (fun env => isTrue (match (inIf g14 2)[0]? with | some (Stmt.If t _ _ _) => t | _ => PySem.Expr.Constant .none 0 default) env (eval (match (inIf g14 2)[0]? with | some (Stmt.If t _ _ _) => t | _ => PySem.Expr.Constant .none 0 default) env)) (!t) := fun m t h1 h2 ht ix hN => by
    have hasl : asL mu (.ml rr) = some (acc.map (ptV k)) := by simp [asL, S6]
    cases hacc : acc.getLast? with
    | none =>
      have e0 : acc = [] := by simpa using hacc
      subst e0
      have : t = false := by rw [← ht]; rfl
      subst this
      exact EvT.to (EvT.tbool (EvT.boolOr (t := true) (r := false) (EvT.to (EvT.tnot (EvT.plain (by rfl) (by walk_at "n") (OpT.list (by exact hasl)))) (by rfl)) (fun h => by cases h))) (by rfl)
    | some x =>
      have hne : acc ≠ [] := by rintro rfl; cases hacc
      have hne' : acc.map (ptV k) ≠ [] := by simpa using hne
      refine EvT.to (EvT.tbool (EvT.boolOr (EvT.tnot (EvT.plain (by rfl) (by walk_at "n") (OpT.list (by exact hasl)))) fun _ => EvT.boolOr (EvT.compare (EvS.item (by walk_at "n") (EvS.unary EvS.cint Op1.neg_int) (.lst (by exact hasl)) (Op2.item_list (k := (acc.map (ptV k)).length - 1) (x := ptV k x) (by exact hasl) (by exact idx_neg hne') (hlast x hacc) (by decide))) (by walk_at "n") (Op2.isnot_ml (hml x)) (by rfl)) fun _ => EvT.boolNil)) ?_
      rw [decide_eq_true hne', ← ht, hacc]
      cases x <;> rfl
  by_cases hc : acc.getLast? = some none
  · have e : trStep q acc .star = acc := by show (if acc.getLast? = some none then acc else acc ++ [none]) = _; exact if_pos hc
    rw [e]
    refine ⟨_, mu, tr_head W.w m mu pre r 42 S1 S2 hl (ExS.one (ExS.ifs (t := true) (fun ix hN => EvT.to (EvT.compare (by walk_at "n") (by walk_at "s") Op2.eq_str (by rfl)) (by rfl)) (fun _ => ExS.one (ExS.ifs (t := false) (test _ true (by walk_at "lk") (by walk_at "lk") (decide_eq_true hc)) (fun h => by cases h) (fun _ => ExS.nil))) (fun h => by cases h))), fin _ _ _ rfl S6⟩
  · have e : trStep q acc .star = acc ++ [none] := by show (if acc.getLast? = some none then acc else acc ++ [none]) = _; exact if_neg hc
    rw [e]
    refine ⟨_, updM mu rr (.list ((acc ++ [none]).map (ptV k))), tr_head W.w m mu pre r 42 S1 S2 hl (ExS.one (ExS.ifs (t := true) (fun ix hN => EvT.to (EvT.compare (by walk_at "n") (by walk_at "s") Op2.eq_str (by rfl)) (by rfl)) (fun _ => ExS.one (ExS.ifs (t := true) (test _ false (by walk_at "lk") (by walk_at "lk") (decide_eq_false hc)) (fun _ => ?_) (fun h => by cases h))) (fun h => by cases h))), fin _ _ _ rfl (by exact if_pos rfl)⟩
    rw [List.map_append]
    exact ExS.one (ExS.appendB (l := acc.map (ptV k)) (x := .ml k) (by walk_at "kd") (by walk_at "nm") (by walk_at "nm") (by walk_at "lk") (by exact S6) (by rw [List.length_map, sizeLine_eq]; omega) (by rfl) (fun ix hN => by walk_at "n"))
theorem tr_ends (m : Loc) (mu : MU) (pre r q : List Nat) (d k rr : Nat) (acc : List (Option (List Nat))) (x : List Nat) (S : TrS m mu (pre ++ d :: r) q k rr pre.length acc) : ∀ (m' : Loc) (mu' : MU), m' = upd (upd m "c" (.str [d])) "i" (.int ((pre.length + 1 : Nat) : Int)) → mu' rr = some (.list ((acc ++ [some x]).map (ptV k))) → TrS m' mu' (pre ++ d :: r) q k rr (pre.length + 1) (acc ++ [some x]) := fun m' mu' e e2 => by
  have S1 := S.hpat; have S2 := S.i; have S3 := S.res; have S4 := S.star; have S5 := S.add; have S6 := S.mu; have S7 := S.n; have S8 := S.qm
  subst e
  exact ⟨by walk_at "lk", by walk_at "lk", by walk_at "lk", by walk_at "lk", by walk_at "lk", by walk_at "lk", by walk_at "lk", e2⟩
theorem tr_qm (W : Wd1 c) (m : Loc) (mu : MU) (pre r q : List Nat) (k rr : Nat) (acc : List (Option (List Nat))) (S : TrS m mu (pre ++ 63 :: r) q k rr pre.length acc) (hl : pre.length ≤ 100000) (ha : acc.length ≤ 100000) :
    ∃ m' mu', ExS c false (n + 1) s14 (execs g14) ⟨m, mu, N⟩ .next ⟨m', mu', N⟩ ∧ TrS m' mu' (pre ++ 63 :: r) q k rr (pre.length + 1) (trStep q acc .qm) := by
  have S1 := S.hpat; have S2 := S.i; have S3 := S.res; have S4 := S.star; have S5 := S.add; have S6 := S.mu; have S7 := S.n; have S8 := S.qm
  have e : trStep q acc .qm = acc ++ [some q] := rfl
  rw [e]
  refine ⟨_, updM mu rr (.list ((acc ++ [some q]).map (ptV k))), tr_head W.w m mu pre r 63 S1 S2 hl (ExS.one (ExS.ifs (t := false) (fun ix hN => EvT.to (EvT.compare (by walk_at "n") (by walk_at "s") Op2.eq_str (by rfl)) (by rfl)) (fun h => by cases h) (fun _ => ExS.one (ExS.ifs (t := true) (fun ix hN => EvT.to (EvT.compare (by walk_at "n") (by walk_at "s") Op2.eq_str (by rfl)) (by rfl)) (fun _ => ?_) (fun h => by cases h))))), tr_ends m mu pre r q 63 k rr acc q S _ _ rfl (by exact if_pos rfl)⟩
  rw [List.map_append]
  exact ExS.one (ExS.appendB (l := acc.map (ptV k)) (x := .str q) (by walk_at "kd") (by walk_at "nm") (by walk_at "nm") (by walk_at "lk") (by exact S6) (by rw [List.length_map, sizeLine_eq]; omega) (by rfl) (fun ix hN => by walk_at "n"))
theorem tr_ch (W : Wd1 c) (m : Loc) (mu : MU) (pre r q : List Nat) (d k rr : Nat) (hd : d ≠ 42 ∧ d ≠ 63 ∧ d ≠ 91) (acc : List (Option (List Nat))) (S : TrS m mu (pre ++ d :: r) q k rr pre.length acc) (hl : pre.length ≤ 100000) (ha : acc.length ≤ 100000) :
    ∃ m' mu', ExS c false (n + 1) s14 (execs g14) ⟨m, mu, N⟩ .next ⟨m', mu', N⟩ ∧ TrS m' mu' (pre ++ d :: r) q k rr (pre.length + 1) (trStep q acc (.ch d)) := by
  have S1 := S.hpat; have S2 := S.i; have S3 := S.res; have S4 := S.star; have S5 := S.add; have S6 := S.mu; have S7 := S.n; have S8 := S.qm
  have e : trStep q acc (.ch d) = acc ++ [some (escC d)] := rfl
  rw [e]
  refine ⟨_, updM mu rr (.list ((acc ++ [some (escC d)]).map (ptV k))), tr_head W.w m mu pre r d S1 S2 hl (ExS.one (ExS.ifs (t := false) (fun ix hN => EvT.to (EvT.compare (by walk_at "n") (by walk_at "s") Op2.eq_str (by rfl)) (by simp [hd.1])) (fun h => by cases h) (fun _ => ExS.one (ExS.ifs (t := false) (fun ix hN => EvT.to (EvT.compare (by walk_at "n") (by walk_at "s") Op2.eq_str (by rfl)) (by simp [hd.2.1])) (fun h => by cases h)
    (fun _ => ExS.one (ExS.ifs (t := false) (fun ix hN => EvT.to (EvT.compare (by walk_at "n") (by walk_at "s") Op2.eq_str (by rfl)) (by simp [hd.2.2])) (fun h => by cases h) (fun _ => ?_))))))), tr_ends m mu pre r q d k rr acc (escC d) S _ _ rfl (by exact if_pos rfl)⟩
  rw [List.map_append]
  exact ExS.one (ExS.appendB (l := acc.map (ptV k)) (x := .str (escC d)) (by walk_at "kd") (by walk_at "nm") (by walk_at "nm") (by walk_at "lk") (by exact S6) (by rw [List.length_map, sizeLine_eq]; omega) (by rfl) (fun ix hN => EvS.own (P := P1) (n' := n) W.w.f79 (by kernel_rfl) (by walk_at "nm") W.F79 (by rfl) (EvL.cons (by rfl) (by walk_at "n") EvL.nil) (by rfl) (by rfl) (escape_ok W.w d)))
/-- the walk to the bracket -/
theorem tr_scan (W : Wd c) (mu : MU) (pat r : List Nat) : ∀ (seg pre : List Nat) (m : Loc), pat = pre ++ seg ++ 93 :: r → (∀ d ∈ seg, d ≠ 93) → pat.length ≤ 100000 → m "pat" = some (.str pat) → m "n" = some (.int (pat.length : Int)) → m "j" = some (.int (pre.length : Int)) →
    ∃ k m', Wh c false n s14 (whTest sq14 3) (inFor sq14 3) k ⟨m, mu, N⟩ .next ⟨m', mu, N⟩ ∧ m' "j" = some (.int ((pre.length + seg.length : Nat) : Int)) ∧ (∀ y : Str, y ≠ "j" → m' y = m y)
  | [], pre, m, e, hs, hl, h1, h2, h3 => by
    have hlen : pre.length < pat.length := by rw [e]; simp
    have hx : pat[pre.length]? = some 93 := by rw [e]; simp
    refine ⟨1, m, .done (fun ix hN => ?_), h3, fun _ _ => rfl⟩
    exact EvT.to (EvT.tbool (EvT.boolAnd (EvT.compare (by walk_at "n") (by walk_at "n") Op2.lt_int (by rfl)) fun _ => EvT.boolAnd (EvT.compare (EvS.item (by walk_at "n") (by walk_at "n") (.str _) (Op2.item_str (seqIdx_nat hlen) hx (by omega))) (by walk_at "s") Op2.ne_str (by rfl)) fun _ => EvT.boolNil)) (by simp)
  | d :: seg, pre, m, e, hs, hl, h1, h2, h3 => by
    have hlen : pre.length < pat.length := by rw [e]; simp
    have hx : pat[pre.length]? = some d := by rw [e]; simp
    have hd : d ≠ 93 := hs d (List.mem_cons_self ..)
    obtain ⟨k, m', w1, w2, w3⟩ := tr_scan W mu pat r seg (pre ++ [d]) (upd m "j" (.int ((pre.length + 1 : Nat) : Int))) (by rw [e]; simp) (fun x hx => hs x (List.mem_cons_of_mem _ hx)) hl (by walk_at "lk") (by walk_at "lk") (by rw [upd_self]; simp)
    refine ⟨k + 1, m', .turn (fun ix hN => ?_) (ExS.one (ExS.assign (x := .int ((pre.length + 1 : Nat) : Int)) (fun ix hN => EvS.binop (a := .int (pre.length : Int)) (by walk_at "n") EvS.cint Op2.add_int) (by walk_at "kd") (fun _ => rfl))) w1, by rw [w2]; simp; omega, fun y hy => (w3 y hy).trans (upd_ne hy)⟩
    exact EvT.to (EvT.tbool (EvT.boolAnd (EvT.compare (by walk_at "n") (by walk_at "n") Op2.lt_int (by rfl)) fun _ => EvT.boolAnd (EvT.compare (EvS.item (by walk_at "n") (by walk_at "n") (.str _) (Op2.item_str (seqIdx_nat hlen) hx (by omega))) (by walk_at "s") Op2.ne_str (by rfl)) fun _ => EvT.boolNil)) (by simp [hd]; omega)
theorem tame_ne {d : Nat} (h : tame d) : d ≠ 93 ∧ d ≠ 45 ∧ d ≠ 92 ∧ d ≠ 94 ∧ d ≠ 91 := by
  rcases h with rfl | rfl | rfl | rfl | rfl <;> decide
/-- the class, from the bracket to its end -/
theorem tr_c1 (W : Wd c) (m : Loc) (mu : MU) (pat pre r s : List Nat) (i : Nat) (e : pat = pre ++ s ++ 93 :: r) (hs : s ≠ []) (hs2 : s ≠ [33]) (ht : ∀ d ∈ s, tame d) (hl : pat.length ≤ 100000) (h1 : m "pat" = some (.str pat)) (h2 : m "n" = some (.int (pat.length : Int))) (h3 : m "i" = some (.int (pre.length : Int))) :
    ∃ m', (∀ {f : Fl} {σ' : Sg}, ExS c false n s14 (execs (sq14.drop 4)) ⟨m', mu, N⟩ f σ' → ExS c false n s14 (execs sq14) ⟨m, mu, N⟩ f σ') ∧ m' "j" = some (.int ((pre.length + s.length : Nat) : Int)) ∧ (∀ y : Str, y ≠ "j" → m' y = m y) := by
  obtain ⟨d, t, rfl⟩ : ∃ d t, s = d :: t := by cases s with
    | nil => exact absurd rfl hs
    | cons d t => exact ⟨d, t, rfl⟩
  have hd := tame_ne (ht d (List.mem_cons_self ..))
  have hx : pat[pre.length]? = some d := by rw [e]; simp
  have hlen : pre.length < pat.length := by rw [e]; simp
  have t1 : ∀ (m : Loc) t, m "pat" = some (.str pat) → m "n" = some (.int (pat.length : Int)) → m "j" = some (.int (pre.length : Int)) → decide (d = 33) = t → TvJ c false n s14 ⟨m, mu, N⟩ (fun env => isTrue (match sq14[1]? with | some (Stmt.If t _ _ _) => t | _ => PySem.Expr.Constant .none 0 default) env (eval (match sq14[1]? with | some (Stmt.If t _ _ _) => t | _ => PySem.Expr.Constant .none 0 default) env)) t := fun m t h1 h2 h3 ht ix hN =>
    EvT.to (EvT.tbool (EvT.boolAnd (EvT.compare (by walk_at "n") (by walk_at "n") Op2.lt_int (by rfl)) fun _ => EvT.boolAnd (EvT.compare (EvS.item (by walk_at "n") (by walk_at "n") (.str _) (Op2.item_str (seqIdx_nat hlen) hx (by omega))) (by walk_at "s") Op2.eq_str (by rfl)) fun _ => EvT.boolNil)) (by rw [← ht]; simp; omega)
  have t2 : ∀ (m : Loc) (k x : Nat), m "pat" = some (.str pat) → m "n" = some (.int (pat.length : Int)) → m "j" = some (.int (k : Int)) → pat[k]? = some x → x ≠ 93 → TvJ c false n s14 ⟨m, mu, N⟩ (fun env => isTrue (match sq14[2]? with | some (Stmt.If t _ _ _) => t | _ => PySem.Expr.Constant .none 0 default) env (eval (match sq14[2]? with | some (Stmt.If t _ _ _) => t | _ => PySem.Expr.Constant .none 0 default) env)) false := fun m k x h1 h2 h3 hx hne ix hN => by
    have hk : k < pat.length := (List.getElem?_eq_some_iff.mp hx).1
    exact EvT.to (EvT.tbool (EvT.boolAnd (EvT.compare (by walk_at "n") (by walk_at "n") Op2.lt_int (by rfl)) fun _ => EvT.boolAnd (EvT.compare (EvS.item (by walk_at "n") (by walk_at "n") (.str _) (Op2.item_str (seqIdx_nat hk) hx (by omega))) (by walk_at "s") Op2.eq_str (by rfl)) fun _ => EvT.boolNil)) (by simp [hne])
  by_cases h33 : d = 33
  · subst h33
    obtain ⟨d2, t2', rfl⟩ : ∃ d2 t2, t = d2 :: t2 := by cases t with
      | nil => exact absurd rfl hs2
      | cons d t => exact ⟨d, t, rfl⟩
    have hd2 := tame_ne (ht d2 (by simp))
    have hx2 : pat[pre.length + 1]? = some d2 := by rw [e]; simp
    obtain ⟨k, m', w1, w2, w3⟩ := tr_scan (c := c) (n := n) (N := N) W mu pat r (d2 :: t2') (pre ++ [33]) (upd (upd m "j" (.int (pre.length : Int))) "j" (.int ((pre.length + 1 : Nat) : Int))) (by rw [e]; simp) (fun x hx => (tame_ne (ht x (List.mem_cons_of_mem _ hx))).1) hl (by walk_at "lk") (by walk_at "lk") (by rw [upd_self]; simp)
    refine ⟨m', fun hrest => ?_, by rw [w2]; simp; omega, fun y hy => (w3 y hy).trans ((upd_ne hy).trans (upd_ne hy))⟩
    refine ExS.cons (ExS.assign (x := .int (pre.length : Int)) (fun ix hN => by walk_at "n") (by walk_at "kd") (fun _ => rfl)) ?_
    refine ExS.cons (ExS.ifs (t := true) (t1 _ true (by walk_at "lk") (by walk_at "lk") (by walk_at "lk") (by rfl)) (fun _ => ExS.one (ExS.assign (x := .int ((pre.length + 1 : Nat) : Int)) (fun ix hN => EvS.binop (a := .int (pre.length : Int)) (by walk_at "n") EvS.cint Op2.add_int) (by walk_at "kd") (fun _ => rfl))) (fun h => by cases h)) ?_
    refine ExS.cons (ExS.ifs (t := false) (t2 _ (pre.length + 1) d2 (by walk_at "lk") (by walk_at "lk") (by walk_at "lk") hx2 hd2.1) (fun h => by cases h) (fun _ => ExS.nil)) ?_
    exact ExS.cons (ExS.whileR w1) hrest
  · obtain ⟨k, m', w1, w2, w3⟩ := tr_scan (c := c) (n := n) (N := N) W mu pat r (d :: t) pre (upd m "j" (.int (pre.length : Int))) (by rw [e]) (fun x hx => (tame_ne (ht x hx)).1) hl (by walk_at "lk") (by walk_at "lk") (by walk_at "lk")
    refine ⟨m', fun hrest => ?_, w2, fun y hy => (w3 y hy).trans (upd_ne hy)⟩
    refine ExS.cons (ExS.assign (x := .int (pre.length : Int)) (fun ix hN => by walk_at "n") (by walk_at "kd") (fun _ => rfl)) ?_
    refine ExS.cons (ExS.ifs (t := false) (t1 _ false (by walk_at "lk") (by walk_at "lk") (by walk_at "lk") (decide_eq_false h33)) (fun h => by cases h) (fun _ => ExS.nil)) ?_
    refine ExS.cons (ExS.ifs (t := false) (t2 _ pre.length d (by walk_at "lk") (by walk_at "lk") (by walk_at "lk") hx hd.1) (fun h => by cases h) (fun _ => ExS.nil)) ?_
    exact ExS.cons (ExS.whileR w1) hrest
noncomputable abbrev st14 : List Stmt := inElse sq14 4
theorem clsB_len (s : List Nat) : (clsB s).length = s.length := by
  unfold clsB; split <;> rfl
theorem cut_one {α : Type} (l : List α) : cut l (some 1) none = l.drop 1 := cut_from l 1 rfl
theorem tr_c2 (W : Wd c) (m : Loc) (mu : MU) (pat pre r s : List Nat) (rr : Nat) (L : List V) (e : pat = pre ++ s ++ 93 :: r) (hs : s ≠ []) (hs2 : s ≠ [33]) (ht : ∀ d ∈ s, tame d) (hl : pat.length ≤ 100000) (h1 : m "pat" = some (.str pat)) (h2 : m "n" = some (.int (pat.length : Int))) (h3 : m "i" = some (.int (pre.length : Int)))
    (h4 : m "j" = some (.int ((pre.length + s.length : Nat) : Int))) (h5 : m "add" = some (.app rr)) (h6 : mu rr = some (.list L)) (hL : L.length ≤ 100000) :
    ∃ m', ExS c false n s14 (execs (sq14.drop 4)) ⟨m, mu, N⟩ .next ⟨m', updM mu rr (.list (L ++ [.str (clsT s)])), N⟩ ∧ m' "i" = some (.int ((pre.length + s.length + 1 : Nat) : Int)) ∧ (∀ y : Str, y ≠ "i" → y ≠ "stuff" → m' y = m y) := by
  have hlen : pat.length = pre.length + s.length + 1 + r.length := by rw [e]; simp; omega
  have hcut : cut pat (some (pre.length : Int)) (some ((pre.length + s.length : Nat) : Int)) = s := by
    rw [cut_nat pat pre.length (pre.length + s.length) rfl rfl (by omega), e]; simp
  have h45 : 45 ∉ s := fun h => (tame_ne (ht 45 h)).2.1 rfl
  have h92 : 92 ∉ s := fun h => (tame_ne (ht 92 h)).2.2.1 rfl
  have hrep : replV s (txt (Str.ofString "\\")) (txt (Str.ofString "\\\\")) = s := by
    have e1 : txt (Str.ofString "\\") = [92] := by unfold txt; simp [strCps]
    rw [e1]; exact replV_notin h92
  obtain ⟨d, t, rfl⟩ : ∃ d t, s = d :: t := by cases s with
    | nil => exact absurd rfl hs
    | cons d t => exact ⟨d, t, rfl⟩
  have hd := tame_ne (ht d (List.mem_cons_self ..))
  have hfin : ∀ (m0 : Loc), m0 "stuff" = some (.str (d :: t)) → m0 "add" = some (.app rr) → ∃ m', ExS c false n s14 (execs (st14.drop 4)) ⟨m0, mu, N⟩ .next ⟨m', updM mu rr (.list (L ++ [.str (clsT (d :: t))])), N⟩ ∧ (∀ y : Str, y ≠ "stuff" → m' y = m0 y) := fun m0 g1 g2 => by
    have app : ∀ (m1 : Loc), m1 "stuff" = some (.str (clsB (d :: t))) → m1 "add" = some (.app rr) → ExS c false n s14 (exec (match (inElse (inElse (st14.drop 4) 0) 0)[1]? with | some s => s | none => .Pass default)) ⟨m1, mu, N⟩ .next ⟨m1, updM mu rr (.list (L ++ [.str (clsT (d :: t))])), N⟩ := fun m1 g1 g2 => by
      refine ExS.appendB (l := L) (x := .str (clsT (d :: t))) (by walk_at "kd") (by walk_at "nm") (by walk_at "nm") (by walk_at "lk") (by exact h6) (by rw [sizeLine_eq]; omega) (by rfl) (fun ix hN => ?_)
      refine EvS.to (EvS.fstr3 (l := clsB (d :: t)) (by walk_at "n") ?_) ?_
      · have := clsB_len (d :: t)
        simp only [List.length_append, strCps, sizeLine_eq]; rw [this]; simp at hlen ⊢; omega
      · unfold clsT; simp [strCps]
    by_cases h33 : d = 33
    · subst h33
      refine ⟨upd m0 "stuff" (.str (clsB (33 :: t))), ?_, fun y hy => upd_ne hy⟩
      refine ExS.one (ExS.ifs (t := false) (fun ix hN => EvT.to (EvT.tnot (EvT.plain (by rfl) (by walk_at "n") OpT.str)) (by simp)) (fun h => by cases h) fun _ => ?_)
      refine ExS.one (ExS.ifs (t := false) (fun ix hN => EvT.to (EvT.compare (by walk_at "n") (by walk_at "s") Op2.eq_str (by rfl)) (by exact decide_eq_false hs2)) (fun h => by cases h) fun _ => ?_)
      refine ExS.cons (ExS.ifs (t := true) (fun ix hN => EvT.to (EvT.compare (EvS.item (by walk_at "n") EvS.cint (.str _) (Op2.item_str (k := 0) (d := 33) (seqIdx0 _ _) (by rfl) (by decide))) (by walk_at "s") Op2.eq_str (by rfl)) (by rfl)) (fun _ => ?_) (fun h => by cases h)) (ExS.one (app _ (by walk_at "lk") (by walk_at "lk")))
      refine ExS.one (ExS.assign (x := .str (clsB (33 :: t))) (fun ix hN => EvS.to (EvS.binop (EvS.const (l := [94]) (by walk_at "cn") (by walk_at "sz")) (EvS.slice_str (l := 33 :: t) (by walk_at "n") (EvO.some EvS.cint) EvO.none) (Op2.add_str ?_)) ?_) (by walk_at "kd") (fun _ => rfl))
      · rw [cut_one, sizeLine_eq]; simp at hlen ⊢; omega
      · rw [cut_one]; rfl
    · refine ⟨m0, ?_, fun y hy => rfl⟩
      have hB : clsB (d :: t) = d :: t := by unfold clsB; split
                                             · rename_i h; injection h with h _; exact absurd h h33
                                             · rfl
      rw [← hB] at g1
      refine ExS.one (ExS.ifs (t := false) (fun ix hN => EvT.to (EvT.tnot (EvT.plain (by rfl) (by walk_at "n") OpT.str)) (by rw [hB]; simp)) (fun h => by cases h) fun _ => ?_)
      refine ExS.one (ExS.ifs (t := false) (fun ix hN => EvT.to (EvT.compare (by walk_at "n") (by walk_at "s") Op2.eq_str (by rfl)) (by rw [hB]; exact decide_eq_false hs2)) (fun h => by cases h) fun _ => ?_)
      have hg : (clsB (d :: t))[0]? = some d := by rw [hB]; rfl
      have hi : seqIndex? 0 (clsB (d :: t)).length = some 0 := by rw [hB]; exact seqIdx0 _ _
      refine ExS.cons (ExS.ifs (t := false) (fun ix hN => EvT.to (EvT.compare (EvS.item (by walk_at "n") EvS.cint (.str _) (Op2.item_str (k := 0) (d := d) hi hg (by decide))) (by walk_at "s") Op2.eq_str (by rfl)) (by simp [h33])) (fun h => by cases h) (fun _ => ?_)) (ExS.one (app _ (by walk_at "lk") (by walk_at "lk")))
      exact ExS.one (ExS.ifs (t := false) (fun ix hN => EvT.to (EvT.compare (EvS.item (by walk_at "n") EvS.cint (.str _) (Op2.item_str (k := 0) (d := d) hi hg (by decide))) (EvS.tuple (EvL.cons (by rfl) (by walk_at "s") (EvL.cons (by rfl) (by walk_at "s") EvL.nil)) (by walk_at "sz")) (Op2.in_tup (ns := [[94], [91]]) (by rfl)) (by rfl)) (by simp [hd.2.2.2.1, hd.2.2.2.2])) (fun h => by cases h) (fun _ => ExS.nil))
  obtain ⟨m', f1, f2⟩ := hfin (upd (upd (upd (upd m "stuff" (.str (d :: t))) "stuff" (.str (d :: t))) "stuff" (.str (d :: t))) "i" (.int ((pre.length + (d :: t).length + 1 : Nat) : Int))) (by walk_at "lk") (by walk_at "lk")
  refine ⟨m', ?_, (f2 _ (by simp [strEq])).trans (by walk_at "lk"), fun y a1 a2 => (f2 y a2).trans ((upd_ne a1).trans ((upd_ne a2).trans ((upd_ne a2).trans (upd_ne a2))))⟩
  refine ExS.one (ExS.ifs (t := false) (fun ix hN => EvT.to (EvT.compare (by walk_at "n") (by walk_at "n") Op2.ge_int (by rfl)) (by exact decide_eq_false (by omega))) (fun h => by cases h) fun _ => ?_)
  refine ExS.cons (ExS.assign (x := .str (d :: t)) (fun ix hN => EvS.to (EvS.slice_str (by walk_at "n") (EvO.some (by walk_at "n")) (EvO.some (by walk_at "n"))) (by rw [hcut])) (by walk_at "kd") (fun _ => rfl)) ?_
  refine ExS.cons (ExS.ifs (t := true) (fun ix hN => EvT.to (EvT.compare (by walk_at "s") (by walk_at "n") (Op2.notin_str (d := 45)) (by rfl)) (by simp at h45 ⊢; exact h45)) (fun _ => ExS.one (ExS.assign (x := .str (d :: t)) (fun ix hN => EvS.to (EvS.repl1 (l := d :: t) (fun _ => rfl) (by rfl) (by walk_at "n") (by decide +kernel) (by rw [show (Str.ofString "\\\\").length = 2 from by decide +kernel]; simp at hlen ⊢; omega)) (by rw [hrep])) (by walk_at "kd") (fun _ => rfl))) (fun h => by cases h)) ?_
  refine ExS.cons (ExS.lamSub (l := d :: t) (pa := 60) (by walk_at "kd") (by walk_at "kd") (by walk_at "nm") (by walk_at "nm") (by rfl) W.g60 (by kernel_rfl) (by walk_at "nm") (by kernel_rfl) (fun env => by rfl) (fun env => by rfl) (by walk_at "lk") (by exact ht) W.p60) ?_
  exact ExS.cons (ExS.assign (x := .int ((pre.length + (d :: t).length + 1 : Nat) : Int)) (fun ix hN => EvS.binop (a := .int ((pre.length + (d :: t).length : Nat) : Int)) (by walk_at "n") EvS.cint Op2.add_int) (by walk_at "kd") (fun _ => rfl)) f1
theorem tr_cls (W : Wd1 c) (m : Loc) (mu : MU) (pre r q s : List Nat) (k rr : Nat) (hok : okA (.cls s)) (acc : List (Option (List Nat))) (S : TrS m mu (pre ++ (91 :: s ++ [93]) ++ r) q k rr pre.length acc) (hl : (pre ++ (91 :: s ++ [93]) ++ r).length ≤ 100000) (ha : acc.length ≤ 100000) :
    ∃ m' mu', ExS c false (n + 1) s14 (execs g14) ⟨m, mu, N⟩ .next ⟨m', mu', N⟩ ∧ TrS m' mu' (pre ++ (91 :: s ++ [93]) ++ r) q k rr (pre.length + (s.length + 2)) (trStep q acc (.cls s)) := by
  obtain ⟨hs, hs2, ht⟩ := hok
  obtain ⟨pat, hp⟩ : ∃ pat, pat = pre ++ (91 :: s ++ [93]) ++ r := ⟨_, rfl⟩
  rw [← hp] at S hl ⊢
  have S1 := S.hpat; have S2 := S.i; have S3 := S.res; have S4 := S.star; have S5 := S.add; have S6 := S.mu; have S7 := S.n; have S8 := S.qm
  have e1 : pat = pre ++ 91 :: (s ++ 93 :: r) := by rw [hp]; simp
  have e2 : pat = (pre ++ [91]) ++ s ++ 93 :: r := by rw [hp]; simp
  have hlp : pre.length ≤ 100000 := by rw [e1] at hl; simp at hl; omega
  obtain ⟨m0, em0⟩ : ∃ m0, m0 = upd (upd m "c" (.str [91])) "i" (.int ((pre.length + 1 : Nat) : Int)) := ⟨_, rfl⟩
  have q1 : m0 "pat" = some (.str pat) := by rw [em0]; walk_at "lk"
  have q2 : m0 "n" = some (.int (pat.length : Int)) := by rw [em0]; walk_at "lk"
  have q3 : m0 "i" = some (.int ((pre ++ [91]).length : Int)) := by rw [em0, upd_self]; simp
  have q4 : m0 "add" = some (.app rr) := by rw [em0]; walk_at "lk"
  have q5 : m0 "c" = some (.str [91]) := by rw [em0]; walk_at "lk"
  obtain ⟨m1, w1, w2, w3⟩ := tr_c1 (c := c) (n := n + 1) (N := N) W.w m0 mu pat (pre ++ [91]) r s 0 e2 hs hs2 ht hl q1 q2 q3
  have n1 : ∀ y : Str, y ≠ "j" → m1 y = m0 y := w3
  obtain ⟨m2, x1, x2, x3⟩ := tr_c2 (c := c) (n := n + 1) (N := N) W.w m1 mu pat (pre ++ [91]) r s rr (acc.map (ptV k)) e2 hs hs2 ht hl ((w3 _ (by simp [strEq])).trans q1) ((w3 _ (by simp [strEq])).trans q2) ((w3 _ (by simp [strEq])).trans q3) w2 ((w3 _ (by simp [strEq])).trans q4) S6 (by rw [List.length_map]; omega)
  have e : trStep q acc (.cls s) = acc ++ [some (clsT s)] := rfl
  have hi2 : m2 "i" = some (.int ((pre.length + (s.length + 2) : Nat) : Int)) := by
    rw [x2, show (pre ++ [91] : List Nat).length + s.length + 1 = pre.length + (s.length + 2) from by rw [List.length_append, List.length_singleton]; omega]
  have hm : ∀ y : Str, y ≠ "i" → y ≠ "stuff" → y ≠ "j" → y ≠ "c" → m2 y = m y := fun y a1 a2 a3 a4 => (x3 y a1 a2).trans ((w3 y a3).trans (by rw [em0, upd_ne a1, upd_ne a4]))
  rw [e]
  refine ⟨m2, updM mu rr (.list (acc.map (ptV k) ++ [.str (clsT s)])), ?_, ⟨(hm _ (by simp [strEq]) (by simp [strEq]) (by simp [strEq]) (by simp [strEq])).trans S1, (hm _ (by simp [strEq]) (by simp [strEq]) (by simp [strEq]) (by simp [strEq])).trans S4, (hm _ (by simp [strEq]) (by simp [strEq]) (by simp [strEq]) (by simp [strEq])).trans S8, (hm _ (by simp [strEq]) (by simp [strEq]) (by simp [strEq]) (by simp [strEq])).trans S3, (hm _ (by simp [strEq]) (by simp [strEq]) (by simp [strEq]) (by simp [strEq])).trans S5, hi2, (hm _ (by simp [strEq]) (by simp [strEq]) (by simp [strEq]) (by simp [strEq])).trans S7, by rw [List.map_append]; exact if_pos rfl⟩⟩
  rw [em0] at w1
  exact tr_head (c := c) (n := n + 1) (N := N) W.w m mu pre (s ++ 93 :: r) 91 (by rw [← e1]; exact S1) S2 hlp (ExS.one (ExS.ifs (t := false) (fun ix hN => EvT.to (EvT.compare (by walk_at "n") (by walk_at "s") Op2.eq_str (by rfl)) (by rfl)) (fun h => by cases h) (fun _ => ExS.one (ExS.ifs (t := false) (fun ix hN => EvT.to (EvT.compare (by walk_at "n") (by walk_at "s") Op2.eq_str (by rfl)) (by rfl)) (fun h => by cases h)
    (fun _ => ExS.one (ExS.ifs (t := true) (fun ix hN => EvT.to (EvT.compare (by walk_at "n") (by walk_at "s") Op2.eq_str (by rfl)) (by rfl)) (fun _ => w1 x1) (fun h => by cases h)))))))
theorem tr_turn (W : Wd1 c) (m : Loc) (mu : MU) (pre r q : List Nat) (a : Pa) (k rr : Nat) (hok : okA a) (acc : List (Option (List Nat))) (S : TrS m mu (pre ++ txA a ++ r) q k rr pre.length acc) (hl : (pre ++ txA a ++ r).length ≤ 100000) (ha : acc.length ≤ 100000) :
    ∃ m' mu', ExS c false (n + 1) s14 (execs g14) ⟨m, mu, N⟩ .next ⟨m', mu', N⟩ ∧ TrS m' mu' (pre ++ txA a ++ r) q k rr (pre ++ txA a).length (trStep q acc a) := by
  have hlp : pre.length ≤ 100000 := by rw [List.length_append, List.length_append] at hl; omega
  cases a with
  | star =>
    have e : pre ++ txA .star ++ r = pre ++ 42 :: r := by simp [txA]
    have e2 : (pre ++ txA .star).length = pre.length + 1 := by simp [txA]
    rw [e] at S ⊢; rw [e2]
    exact tr_star W m mu pre r q k rr acc S hlp ha
  | qm =>
    have e : pre ++ txA .qm ++ r = pre ++ 63 :: r := by simp [txA]
    have e2 : (pre ++ txA .qm).length = pre.length + 1 := by simp [txA]
    rw [e] at S ⊢; rw [e2]
    exact tr_qm W m mu pre r q k rr acc S hlp ha
  | ch d =>
    have e : pre ++ txA (.ch d) ++ r = pre ++ d :: r := by simp [txA]
    have e2 : (pre ++ txA (.ch d)).length = pre.length + 1 := by simp [txA]
    rw [e] at S ⊢; rw [e2]
    exact tr_ch W m mu pre r q d k rr hok acc S hlp ha
  | cls s =>
    have e2 : (pre ++ txA (.cls s)).length = pre.length + (s.length + 2) := by simp [txA]
    rw [e2]
    exact tr_cls W m mu pre r q s k rr hok acc S hl ha
theorem tr_loop (W : Wd1 c) (q : List Nat) (k rr : Nat) : ∀ (as : List Pa) (pre : List Nat) (m : Loc) (mu : MU) (acc : List (Option (List Nat))), (∀ a ∈ as, okA a) → (pre ++ txL as).length ≤ 100000 → acc.length + as.length ≤ 100000 → TrS m mu (pre ++ txL as) q k rr pre.length acc →
    ∃ kk m' mu', Wh c false (n + 1) s14 (whTest b14 3) g14 kk ⟨m, mu, N⟩ .next ⟨m', mu', N⟩ ∧ TrS m' mu' (pre ++ txL as) q k rr (pre ++ txL as).length (as.foldl (trStep q) acc)
  | [], pre, m, mu, acc, hok, hl, ha, S => by
    have e : pre ++ txL [] = pre := by simp [txL]
    have S2 := S.i; have S7 := S.n
    rw [e] at S S7 ⊢
    refine ⟨1, m, mu, .done (fun ix hN => ?_), S⟩
    exact EvT.to (EvT.compare (by walk_at "n") (by walk_at "n") Op2.lt_int (by rfl)) (by simp)
  | a :: as, pre, m, mu, acc, hok, hl, ha, S => by
    have e : pre ++ txL (a :: as) = pre ++ txA a ++ txL as := by simp [txL]
    have S2 := S.i; have S7 := S.n
    have hpos : 0 < (txA a).length := by cases a <;> simp [txA]
    have hst := trStep_len q acc a
    rw [List.length_cons] at ha
    rw [e] at S S7 hl ⊢
    obtain ⟨m1, mu1, t1, t2⟩ := tr_turn (c := c) (n := n) (N := N) W m mu pre (txL as) q a k rr (hok a (List.mem_cons_self ..)) acc S hl (by omega)
    obtain ⟨kk, m', mu', w1, w2⟩ := tr_loop W q k rr as (pre ++ txA a) m1 mu1 (trStep q acc a) (fun x hx => hok x (List.mem_cons_of_mem _ hx)) hl (by omega) t2
    refine ⟨kk + 1, m', mu', .turn (fun ix hN => ?_) t1 w1, w2⟩
    exact EvT.to (EvT.compare (by walk_at "n") (by walk_at "n") Op2.lt_int (by rfl)) (by simp only [List.length_append, decide_eq_true_eq]; omega)
theorem tra_ok (W : Wd1 c) (as : List Pa) (q : List Nat) (k : Nat) (hk : k < N) (hok : ∀ a ∈ as, okA a) (hl : (txL as).length ≤ 100000) (ha : as.length ≤ 100000) :
    FnS P1 c false (n + 1) 14 ["pat", "STAR", "QUESTION_MARK"] [.str (txL as), .ml k, .str q] (.lst ((trL q as).map (ptV k))) N := by
  obtain ⟨kk, m', mu', w1, w2⟩ := tr_loop (c := c) (n := n) (N := N + 1) W q k N as [] (upd (upd (upd (upd (argm ["pat", "STAR", "QUESTION_MARK"] [.str (txL as), .ml k, .str q] fun _ => none) "res" (.ml N)) "add" (.app N)) "n" (.int ((txL as).length : Int))) "i" (.int 0)) (updM (fun _ => none) N (.list [])) [] hok hl (by simpa using ha)
    ⟨by walk_at "lk", by walk_at "lk", by walk_at "lk", by walk_at "lk", by walk_at "lk", by walk_at "lk", by walk_at "lk", if_pos rfl⟩
  have S2 := w2.i; have S3 := w2.res; have S7 := w2.n
  refine ⟨.ml N, ⟨m', mu', N + 1⟩, ?_, ?_⟩
  · refine ExS.cons (ExS.assignList (l := []) (fun ix hN => EvL.nil) (Nat.zero_le _) (by walk_at "kd")) ?_
    refine ExS.cons (ExS.assignApp (i := N) (l := []) (by walk_at "kd") (by walk_at "kd") (by walk_at "nm") (by walk_at "nm") (by walk_at "lk") (by exact if_pos rfl)) ?_
    refine ExS.cons (ExS.assignSwap (ys := ["i", "n"]) (xs := [.int 0, .int ((txL as).length : Int)]) (fun y hy => by simp at hy; rcases hy with rfl | rfl <;> walk_at "kd") (by rfl) (fun ix hN => EvS.tuple (EvL.cons (by rfl) EvS.cint (EvL.cons (by rfl) (EvS.callf W.w.len (by kernel_rfl) (by walk_at "nm") (fun a => nofun) (by rfl) (EvL.cons (by rfl) (by walk_at "n") EvL.nil) OpN.len_str) EvL.nil)) (by walk_at "sz")) (fun env => rfl) (fun env he => by cases env; cases he; kernel_rfl)) ?_
    refine ExS.cons (ExS.whileR w1) ?_
    refine ExS.cons (ExS.assert (fun ix hN => EvT.to (EvT.compare (by walk_at "n") (by walk_at "n") Op2.eq_int (by rfl)) (by simp))) ?_
    exact ExS.one (ExS.ret fun ix hN => by walk_at "n")
  · refine .own w2.mu (by simp [trL]) fun i x y hx hy => ?_
    rw [List.getElem?_map, Option.map_eq_some_iff] at hx hy
    obtain ⟨p, hp, rfl⟩ := hx
    obtain ⟨p', hp', rfl⟩ := hy
    have : p = p' := by
      have e : (trL q as)[i]? = some p := hp
      rw [e] at hp'; injection hp'
    subst this
    cases p with
    | none => exact .out (by show k < N; exact hk)
    | some t => exact .str _

end Mine

end
section
open PySem PySem.Calls PySem.W PyProof.Rows
set_option Elab.async false
set_option autoImplicit false
set_option linter.unusedVariables false
set_option maxRecDepth 100000
namespace Mine
noncomputable abbrev b15 : List Stmt := bodyAt P1 15
noncomputable abbrev s15 : Scope := scopeAt P1 15
noncomputable abbrev g15 : List Stmt := inFor b15 4
variable {c : C} {n N : Nat} {b : Bool}
noncomputable abbrev heldG (g : List (List Nat)) : List Nat := [40, 63, 62, 46, 42, 63] ++ g.flatten ++ [41]
/-- the parts: a star, and behind each group one -/
noncomputable def jnP (gs : List (List (List Nat))) : List (Option (List Nat)) := none :: (gs.map fun g => g.map some ++ [none]).flatten
noncomputable def jnT (gs : List (List (List Nat))) : List Nat := [40, 63, 115, 58] ++ ((gs.map heldG).flatten ++ [46, 42]) ++ [41, 92, 90]
structure JnS (m : Loc) (mu : MU) (parts : List (Option (List Nat))) (k r i : Nat) (acc : List (List Nat)) : Prop where
  inp : m "inp" = some (.lst (parts.map (ptV k)))
  star : m "STAR" = some (.ml k)
  res : m "res" = some (.ml r)
  add : m "add" = some (.app r)
  i : m "i" = some (.int (i : Int))
  n : m "n" = some (.int (parts.length : Int))
  mu : mu r = some (.list (acc.map .str))
theorem ptV_at {parts : List (Option (List Nat))} {k i : Nat} {x : Option (List Nat)} (h : parts[i]? = some x) : (parts.map (ptV k))[i]? = some (ptV k x) := by rw [List.getElem?_map, h]; rfl
theorem ptV_is (k : Nat) (x : Option (List Nat)) : isMl k (ptV k x) = some (decide (x = none)) := by
  cases x with
  | none => show (if k = k then some true else none) = _; rw [if_pos rfl]; simp
  | some t => rfl
/-- inp[i] is STAR, as a test -/
theorem jn_it {j : J} {e1 e2 : PySem.Expr} {parts : List (Option (List Nat))} {k i : Nat} {x : Option (List Nat)} {pos : Pos} (h1 : EvS c j (eval e1) (.lst (parts.map (ptV k)))) (h2 : EvS c j (eval e2) (.int (i : Int))) (h : parts[i]? = some x) (hl : parts.length ≤ 100000) : EvS c j (eval (.Subscript e1 e2 pos)) (ptV k x) := by
  have hlt : i < parts.length := (List.getElem?_eq_some_iff.mp h).1
  exact EvS.item h1 h2 (.lst (by rfl)) (Op2.item_list (l := parts.map (ptV k)) (k := i) rfl (seqIdx_nat (by rw [List.length_map]; exact hlt)) (ptV_at h) (by omega))
theorem jn_inner (W : Wd c) (parts : List (Option (List Nat))) (k f : Nat) (hl : parts.length ≤ 100000) : ∀ (g : List (List Nat)) (A B : List (Option (List Nat))) (m : Loc) (mu : MU) (acc : List (List Nat)), parts = A ++ g.map some ++ none :: B → acc.length + g.length ≤ 100000 → m "inp" = some (.lst (parts.map (ptV k))) → m "STAR" = some (.ml k) → m "fixed" = some (.ml f) → m "i" = some (.int (A.length : Int)) → m "n" = some (.int (parts.length : Int)) → mu f = some (.list (acc.map .str)) →
    ∃ kk m' mu', Wh c b n s15 (whTest g15 5) (inFor g15 5) kk ⟨m, mu, N⟩ .next ⟨m', mu', N⟩ ∧ m' "i" = some (.int ((A.length + g.length : Nat) : Int)) ∧ (∀ y : Str, y ≠ "i" → m' y = m y) ∧ mu' f = some (.list ((acc ++ g).map .str)) ∧ (∀ y, y ≠ f → mu' y = mu y)
  | [], A, B, m, mu, acc, e, ha, h1, h2, h3, h4, h5, h6 => by
    have hx : parts[A.length]? = some none := by rw [e]; simp
    refine ⟨1, m, mu, .done (fun ix hN => ?_), h4, fun _ _ => rfl, by rw [List.append_nil]; exact h6, fun _ _ => rfl⟩
    exact EvT.to (EvT.tbool (EvT.boolAnd (EvT.compare (by walk_at "n") (by walk_at "n") Op2.lt_int (by rfl)) fun _ => EvT.boolAnd (EvT.compare (jn_it (by walk_at "n") (by walk_at "n") hx hl) (by walk_at "n") (Op2.isnot_ml (ptV_is k _)) (by rfl)) fun _ => EvT.boolNil)) (by simp)
  | t :: g, A, B, m, mu, acc, e, ha, h1, h2, h3, h4, h5, h6 => by
    rw [List.length_cons] at ha
    have hx : parts[A.length]? = some (some t) := by rw [e]; simp
    have hlt : A.length < parts.length := (List.getElem?_eq_some_iff.mp hx).1
    obtain ⟨kk, m', mu', w1, w2, w3, w4, w5⟩ := jn_inner W parts k f hl g (A ++ [some t]) B (upd m "i" (.int ((A.length + 1 : Nat) : Int))) (updM mu f (.list ((acc ++ [t]).map .str))) (acc ++ [t]) (by rw [e]; simp) (by rw [List.length_append, List.length_singleton]; omega) (by walk_at "lk") (by walk_at "lk") (by walk_at "lk") (by rw [upd_self, List.length_append, List.length_singleton]) (by walk_at "lk") (if_pos rfl)
    refine ⟨kk + 1, m', mu', .turn (fun ix hN => ?_) (ExS.cons (σ₁ := ⟨m, updM mu f (.list ((acc ++ [t]).map .str)), N⟩) (ExS.to (ExS.appendM (l := acc.map .str) (x := .str t) (i := f) (by walk_at "kd") (by walk_at "nm") (by walk_at "nm") (by rfl) (by walk_at "lk") (by exact h6) (by rw [List.length_map, sizeLine_eq]; omega) (by rfl) (fun ix hN => jn_it (k := k) (x := some t) (by walk_at "n") (by walk_at "n") hx hl)) ?_)
      (ExS.one (ExS.aug (x := .int ((A.length + 1 : Nat) : Int)) (by walk_at "kd") (by walk_at "nm") (a := .int (A.length : Int)) (v := .int 1) (by walk_at "lk") (fun ix hN => EvS.cint) (fun ix hN => Op2.iadd_int)))) w1, ?_, fun y hy => (w3 y hy).trans (upd_ne hy), by rw [w4, List.append_assoc]; rfl, fun y hy => (w5 y hy).trans (if_neg hy)⟩
    · exact EvT.to (EvT.tbool (EvT.boolAnd (EvT.compare (by walk_at "n") (by walk_at "n") Op2.lt_int (by rfl)) fun _ => EvT.boolAnd (EvT.compare (jn_it (by walk_at "n") (by walk_at "n") hx hl) (by walk_at "n") (Op2.isnot_ml (ptV_is k _)) (by rfl)) fun _ => EvT.boolNil)) (by simp; omega)
    · show Sg.mk _ _ _ = Sg.mk m (updM mu f (.list ((acc ++ [t]).map .str))) N
      rw [List.map_append]; rfl
    · rw [w2, List.length_append, List.length_singleton, List.length_cons, Nat.add_assoc, Nat.add_comm 1]
noncomputable abbrev ap15 (s : Option Stmt) : Stmt := match s with | some s => s | none => .Pass default
/-- one group -/
theorem jn_turn (W : Wd c) (parts : List (Option (List Nat))) (k r : Nat) (hl : parts.length ≤ 100000) (g : List (List Nat)) (hg : g ≠ []) (A B : List (Option (List Nat))) (m : Loc) (mu : MU) (acc : List (List Nat)) (hN : r < N) (e : parts = A ++ none :: (g.map some ++ none :: B)) (ha : acc.length ≤ 100000) (hsz : g.flatten.length ≤ 100000) (S : JnS m mu parts k r A.length acc) :
    ∃ m' mu', ExS c b n s15 (execs g15) ⟨m, mu, N⟩ .next ⟨m', mu', N + 1⟩ ∧ JnS m' mu' parts k r (A.length + 1 + g.length) (acc ++ [heldG g]) := by
  have S1 := S.inp; have S2 := S.star; have S3 := S.res; have S4 := S.add; have S5 := S.i; have S6 := S.n; have S7 := S.mu
  obtain ⟨t, g', rfl⟩ : ∃ t g', g = t :: g' := by cases g with
    | nil => exact absurd rfl hg
    | cons t g' => exact ⟨t, g', rfl⟩
  have hx : parts[A.length]? = some none := by rw [e]; simp
  have hx1 : parts[A.length + 1]? = some (some t) := by rw [e]; simp
  have hlen : parts.length = A.length + 1 + (t :: g').length + 1 + B.length := by rw [e]; simp; omega
  obtain ⟨kk, m', mu', w1, w2, w3, w4, w5⟩ := jn_inner (c := c) (b := b) (n := n) (N := N + 1) W parts k N hl (t :: g') (A ++ [none]) B (upd (upd m "i" (.int ((A.length + 1 : Nat) : Int))) "fixed" (.ml N)) (updM mu N (.list [])) [] (by rw [e]; simp) (by simp only [List.length_nil]; omega) (by walk_at "lk") (by walk_at "lk") (by walk_at "lk") (by rw [upd_ne (by simp [strEq]), upd_self, List.length_append, List.length_singleton]) (by walk_at "lk") (if_pos rfl)
  have u1 : m' "add" = some (.app r) := (w3 _ (by simp [strEq])).trans (by walk_at "lk")
  have u2 : m' "fixed" = some (.ml N) := (w3 _ (by simp [strEq])).trans (by walk_at "lk")
  have u3 : m' "n" = some (.int (parts.length : Int)) := (w3 _ (by simp [strEq])).trans (by walk_at "lk")
  have u4 : m' "i" = some (.int ((A.length + 1 + (t :: g').length : Nat) : Int)) := by rw [w2, List.length_append, List.length_singleton]
  have u5 : mu' r = some (.list (acc.map .str)) := (w5 r (by omega)).trans ((if_neg (by omega)).trans S7)
  have hasl : asL mu' (.ml N) = some ((t :: g').map .str) := by simp only [asL, w4, List.nil_append]
  clear w2
  refine ⟨upd m' "fixed" (.str (t :: g').flatten), updM mu' r (.list ((acc ++ [heldG (t :: g')]).map .str)), ?_, ?_⟩
  · refine ExS.cons (ExS.assert (fun ix hN => EvT.to (EvT.compare (jn_it (by walk_at "n") (by walk_at "n") hx hl) (by walk_at "n") (Op2.is_ml (ptV_is k _)) (by rfl)) (by rfl))) ?_
    refine ExS.cons (ExS.aug (x := .int ((A.length + 1 : Nat) : Int)) (by walk_at "kd") (by walk_at "nm") (a := .int (A.length : Int)) (v := .int 1) (by walk_at "lk") (fun ix hN => EvS.cint) (fun ix hN => Op2.iadd_int)) ?_
    refine ExS.cons (ExS.ifs (t := false) (fun ix hN => EvT.to (EvT.compare (by walk_at "n") (by walk_at "n") Op2.eq_int (by rfl)) (by exact decide_eq_false (by omega))) (fun h => by cases h) (fun _ => ExS.nil)) ?_
    refine ExS.cons (ExS.assert (fun ix hN => EvT.to (EvT.compare (jn_it (i := A.length + 1) (by walk_at "n") (by walk_at "n") hx1 hl) (by walk_at "n") (Op2.isnot_ml (ptV_is k _)) (by rfl)) (by rfl))) ?_
    refine ExS.cons (ExS.assignList (l := []) (fun ix hN => EvL.nil) (Nat.zero_le _) (by walk_at "kd")) ?_
    refine ExS.cons (ExS.whileR w1) ?_
    refine ExS.cons (ExS.assign (x := .str (t :: g').flatten) (fun ix hN => EvS.to (EvS.meth (T := "str") (id := "str.join") (fun _ => rfl) (by decide) (by rfl) PySem.F.plainAttrs_str PySem.F.slot_str_join PySem.F.type_str_join str_TypeIs (EvS.const (l := []) (by walk_at "cn") (by walk_at "sz")) (by rfl) (EvL.cons (by rfl) (by walk_at "n") EvL.nil) (OpN.join (by exact hasl) (strsOf_map _) (by rw [sizeLine_eq, sum_flat]; simp only [List.length_nil]; omega))) (by rw [joinV_nil])) (by walk_at "kd") (fun _ => rfl)) ?_
    refine ExS.one (ExS.ifs (t := false) (fun ix hN => EvT.to (EvT.compare (by walk_at "n") (by walk_at "n") Op2.eq_int (by rfl)) (by exact decide_eq_false (by omega))) (fun h => by cases h) (fun _ => ?_))
    rw [List.map_append]
    exact ExS.one (ExS.appendB (l := acc.map .str) (x := .str (heldG (t :: g'))) (by walk_at "kd") (by walk_at "nm") (by walk_at "nm") (by walk_at "lk") (by exact u5) (by rw [List.length_map, sizeLine_eq]; omega) (by rfl) (fun ix hN => EvS.to (EvS.fstr3 (l := (t :: g').flatten) (by walk_at "n") (by simp only [List.length_append, strCps, sizeLine_eq]; simp at hsz ⊢; omega)) (by simp [strCps, heldG])))
  · have hm : ∀ y : Str, y ≠ "i" → y ≠ "fixed" → upd m' "fixed" (.str (t :: g').flatten) y = m y := fun y a1 a2 => (upd_ne a2).trans ((w3 y a1).trans ((upd_ne a2).trans (upd_ne a1)))
    exact ⟨(hm _ (by simp [strEq]) (by simp [strEq])).trans S1, (hm _ (by simp [strEq]) (by simp [strEq])).trans S2, (hm _ (by simp [strEq]) (by simp [strEq])).trans S3, (hm _ (by simp [strEq]) (by simp [strEq])).trans S4, (upd_ne (by simp [strEq])).trans u4, (hm _ (by simp [strEq]) (by simp [strEq])).trans S6, if_pos rfl⟩
theorem jn_test (W : Wd c) (m : Loc) (mu : MU) (len i : Nat) (x : Bool) (h1 : m "i" = some (.int (i : Int))) (h2 : m "n" = some (.int (len : Int))) (hx : decide ((i : Int) < (len : Int)) = x) : TvJ c b n s15 ⟨m, mu, N⟩ (fun env => isTrue (whTest b15 4) env (eval (whTest b15 4) env)) x := fun ix hN =>
  EvT.to (EvT.compare (by walk_at "n") (by walk_at "n") Op2.lt_int (by rfl)) hx
theorem jn_loop (W : Wd c) (parts : List (Option (List Nat))) (k r : Nat) (hl : parts.length ≤ 100000) : ∀ (gs : List (List (List Nat))) (A : List (Option (List Nat))) (m : Loc) (mu : MU) (N : Nat) (acc : List (List Nat)), (∀ g ∈ gs, g ≠ [] ∧ g.flatten.length ≤ 100000) → parts = A ++ jnP gs → r < N → acc.length + gs.length ≤ 10000 → JnS m mu parts k r A.length acc →
    ∃ kk m' mu' N', Wh c b n s15 (whTest b15 4) g15 kk ⟨m, mu, N⟩ .next ⟨m', mu', N'⟩ ∧ m' "res" = some (.ml r) ∧ m' "i" = some (.int (parts.length : Int)) ∧ m' "n" = some (.int (parts.length : Int)) ∧ mu' r = some (.list ((acc ++ gs.map heldG ++ [[46, 42]]).map .str))
  | [], A, m, mu, N, acc, hg, e, hr, ha, S => by
    have S1 := S.inp; have S2 := S.star; have S3 := S.res; have S4 := S.add; have S5 := S.i; have S6 := S.n; have S7 := S.mu
    have hlen : parts.length = A.length + 1 := by rw [e]; simp [jnP]
    have hx : parts[A.length]? = some none := by rw [e]; simp [jnP]
    refine ⟨1, upd m "i" (.int ((A.length + 1 : Nat) : Int)), updM mu r (.list ((acc ++ [[46, 42]]).map .str)), N, .brk (jn_test W m mu _ _ true S5 S6 (decide_eq_true (by omega))) ?_, by walk_at "lk", by rw [upd_self, hlen], by walk_at "lk", by simp only [List.map_nil, List.append_nil]; exact if_pos rfl⟩
    refine ExS.cons (ExS.assert (fun ix hN => EvT.to (EvT.compare (jn_it (by walk_at "n") (by walk_at "n") hx hl) (by walk_at "n") (Op2.is_ml (ptV_is k _)) (by rfl)) (by rfl))) ?_
    refine ExS.cons (ExS.aug (x := .int ((A.length + 1 : Nat) : Int)) (by walk_at "kd") (by walk_at "nm") (a := .int (A.length : Int)) (v := .int 1) (by walk_at "lk") (fun ix hN => EvS.cint) (fun ix hN => Op2.iadd_int)) ?_
    refine ExS.stop (ExS.ifs (t := true) (fun ix hN => EvT.to (EvT.compare (by walk_at "n") (by walk_at "n") Op2.eq_int (by rfl)) (by exact decide_eq_true (by omega))) (fun _ => ?_) (fun h => by cases h)) (by intro q; cases q)
    rw [List.map_append]
    exact ExS.cons (ExS.appendB (l := acc.map .str) (x := .str [46, 42]) (by walk_at "kd") (by walk_at "nm") (by walk_at "nm") (by walk_at "lk") (by exact S7) (by rw [List.length_map, sizeLine_eq]; omega) (by rfl) (fun ix hN => by walk_at "s")) (ExS.stop ExS.brk (by intro q; cases q))
  | g :: gs, A, m, mu, N, acc, hg, e, hr, ha, S => by
    have S5 := S.i; have S6 := S.n
    rw [List.length_cons] at ha
    obtain ⟨hg1, hg2⟩ := hg g (List.mem_cons_self ..)
    have e1 : parts = A ++ none :: (g.map some ++ none :: (gs.map fun g => g.map some ++ [none]).flatten) := by rw [e]; simp [jnP]
    have e2 : parts = (A ++ none :: g.map some) ++ jnP gs := by rw [e1]; simp [jnP]
    have hlt : A.length < parts.length := by rw [e1]; simp
    obtain ⟨m1, mu1, t1, t2⟩ := jn_turn (c := c) (b := b) (n := n) (N := N) W parts k r hl g hg1 A _ m mu acc hr e1 (by omega) hg2 S
    have el : A.length + 1 + g.length = (A ++ none :: g.map some).length := by simp; omega
    rw [el] at t2
    obtain ⟨kk, m', mu', N', w1, w2, w3, w4, w5⟩ := jn_loop W parts k r hl gs _ m1 mu1 (N + 1) (acc ++ [heldG g]) (fun x hx => hg x (List.mem_cons_of_mem _ hx)) e2 (by omega) (by rw [List.length_append, List.length_singleton]; omega) t2
    exact ⟨kk + 1, m', mu', N', .turn (jn_test W m mu _ _ true S5 S6 (decide_eq_true (by omega))) t1 w1, w2, w3, w4, by rw [w5]; simp⟩
theorem heldG_len (g : List (List Nat)) : (heldG g).length = g.flatten.length + 7 := by simp [heldG]
theorem join_ok (W : Wd c) (gs : List (List (List Nat))) (k : Nat) (hg : ∀ g ∈ gs, g ≠ [] ∧ g.flatten.length ≤ 100000) (hl : (jnP gs).length ≤ 10000) (hgl : gs.length ≤ 1000) (hsz : ((gs.map heldG).flatten).length ≤ 100000) :
    FnS P1 c b n 15 ["inp", "STAR"] [.lst ((jnP gs).map (ptV k)), .ml k] (.str (jnT gs)) N := by
  obtain ⟨kk, m', mu', N', w1, w2, w3, w4, w5⟩ := jn_loop (c := c) (b := b) (n := n) W (jnP gs) k N (by omega) gs [] (upd (upd (upd (upd (argm ["inp", "STAR"] [.lst ((jnP gs).map (ptV k)), .ml k] fun _ => none) "res" (.ml N)) "add" (.app N)) "n" (.int ((jnP gs).length : Int))) "i" (.int 0)) (updM (fun _ => none) N (.list [])) (N + 1) [] hg rfl (by omega) (by simp only [List.length_nil]; omega)
    ⟨by walk_at "lk", by walk_at "lk", by walk_at "lk", by walk_at "lk", by walk_at "lk", by walk_at "lk", if_pos rfl⟩
  rw [List.nil_append] at w5
  have hasl : asL mu' (.ml N) = some ((gs.map heldG ++ [[46, 42]]).map .str) := by simp only [asL, w5]
  have hfl : (gs.map heldG ++ [[46, 42]]).flatten.length ≤ 100002 := by rw [List.flatten_append, List.length_append]; simp at hsz ⊢; omega
  refine ⟨.str (jnT gs), ⟨upd m' "res" (.str ((gs.map heldG).flatten ++ [46, 42])), mu', N'⟩, ?_, .str _⟩
  refine ExS.cons (ExS.assignList (l := []) (fun ix hN => EvL.nil) (Nat.zero_le _) (by walk_at "kd")) ?_
  refine ExS.cons (ExS.assignApp (i := N) (l := []) (by walk_at "kd") (by walk_at "kd") (by walk_at "nm") (by walk_at "nm") (by walk_at "lk") (by exact if_pos rfl)) ?_
  refine ExS.cons (ExS.assignSwap (ys := ["i", "n"]) (xs := [.int 0, .int ((jnP gs).length : Int)]) (fun y hy => by simp at hy; rcases hy with rfl | rfl <;> walk_at "kd") (by rfl) (fun ix hN => EvS.tuple (EvL.cons (by rfl) EvS.cint (EvL.cons (by rfl) (EvS.to (EvS.callf W.len (by kernel_rfl) (by walk_at "nm") (fun a => nofun) (by rfl) (EvL.cons (by rfl) (by walk_at "n") EvL.nil) (OpN.len_list (l := (jnP gs).map (ptV k)) (by rfl))) (by rw [List.length_map])) EvL.nil)) (by walk_at "sz")) (fun env => rfl) (fun env he => by cases env; cases he; kernel_rfl)) ?_
  refine ExS.cons (σ₁ := ⟨upd (upd (upd (upd (argm ["inp", "STAR"] [.lst ((jnP gs).map (ptV k)), .ml k] fun _ => none) "res" (.ml N)) "add" (.app N)) "n" (.int ((jnP gs).length : Int))) "i" (.int 0), updM (fun _ => none) N (.list []), N + 1⟩) (ExS.whileR (k := 1) (.done (fun ix hN => ?_))) ?_
  · have hx : (jnP gs)[0]? = some none := rfl
    exact EvT.to (EvT.tbool (EvT.boolAnd (EvT.compare (by walk_at "n") (by walk_at "n") Op2.lt_int (by rfl)) fun _ => EvT.boolAnd (EvT.compare (jn_it (i := 0) (by walk_at "n") (by walk_at "n") hx (by omega)) (by walk_at "n") (Op2.isnot_ml (ptV_is k _)) (by rfl)) fun _ => EvT.boolNil)) (by simp)
  refine ExS.cons (ExS.whileR w1) ?_
  refine ExS.cons (ExS.assert (fun ix hN => EvT.to (EvT.compare (by walk_at "n") (by walk_at "n") Op2.eq_int (by rfl)) (by simp))) ?_
  refine ExS.cons (ExS.assign (x := .str ((gs.map heldG).flatten ++ [46, 42])) (fun ix hN => EvS.to (EvS.meth (T := "str") (id := "str.join") (fun _ => rfl) (by decide) (by rfl) PySem.F.plainAttrs_str PySem.F.slot_str_join PySem.F.type_str_join str_TypeIs (EvS.const (l := []) (by walk_at "cn") (by walk_at "sz")) (by rfl) (EvL.cons (by rfl) (by walk_at "n") EvL.nil) (OpN.join (by exact hasl) (strsOf_map _) (by rw [sizeLine_eq, sum_flat]; simp only [List.length_nil]; omega))) (by rw [joinV_nil, List.flatten_append]; rfl)) (by walk_at "kd") (fun _ => rfl)) ?_
  refine ExS.one (ExS.ret fun ix hN => EvS.to (EvS.fstr3 (l := (gs.map heldG).flatten ++ [46, 42]) (by walk_at "n") ?_) ?_)
  · simp only [List.length_append, strCps, sizeLine_eq]; simp at hsz ⊢; omega
  · simp [strCps, jnT]

end Mine

end
section
open PySem PySem.Calls PySem.W PyProof.Rows
set_option Elab.async false
set_option autoImplicit false
set_option linter.unusedVariables false
set_option maxRecDepth 100000
namespace Mine
noncomputable abbrev s9 : Scope := scopeAt P1 9
variable {c : C} {n N : Nat}
theorem trans_ok (W : Wd1 c) (as : List Pa) (gs : List (List (List Nat))) (e : trL [46] as = jnP gs) (hok : ∀ a ∈ as, okA a) (hl : (txL as).length ≤ 100000) (ha : as.length ≤ 100000) (hg : ∀ g ∈ gs, g ≠ [] ∧ g.flatten.length ≤ 100000) (hj : (jnP gs).length ≤ 10000) (hgl : gs.length ≤ 1000) (hsz : ((gs.map heldG).flatten).length ≤ 100000) :
    FnS P1 c false (n + 2) 9 ["pat"] [.str (txL as)] (.str (jnT gs)) N := by
  have t := tra_ok (c := c) (n := n) (N := N + 1) W as [46] N (by omega) hok hl ha
  rw [e] at t
  have jj := join_ok (c := c) (b := false) (n := n + 1) (N := N + 1) W.w gs N hg hj hgl hsz
  refine ⟨.str (jnT gs), ⟨upd (upd (argm ["pat"] [.str (txL as)] fun _ => none) "STAR" (.ml N)) "parts" (.lst ((jnP gs).map (ptV N))), updM (fun _ => none) N .obj, N + 1⟩, ?_, .str _⟩
  refine ExS.cons (ExS.assignObj W.w.object (by kernel_rfl) (by walk_at "kd")) ?_
  refine ExS.cons (ExS.assign (x := .lst ((jnP gs).map (ptV N))) (fun ix hN => EvS.own (P := P1) (n' := n + 1) W.w.f86 (by kernel_rfl) (by walk_at "nm") W.F86 (by rfl) (EvL.cons (by rfl) (by walk_at "n") (EvL.cons (by rfl) (by walk_at "n") (EvL.cons (by rfl) (EvS.const (l := [46]) (by walk_at "cn") (by walk_at "sz")) EvL.nil))) (by rfl) (by rfl) (by rw [show ix.N = N + 1 from hN]; exact t)) (by walk_at "kd") (fun _ => rfl)) ?_
  exact ExS.one (ExS.ret fun ix hN => EvS.own (P := P1) (n' := n + 1) W.w.f93 (by kernel_rfl) (by walk_at "nm") W.F93 (by rfl) (EvL.cons (by rfl) (by walk_at "n") (EvL.cons (by rfl) (by walk_at "n") EvL.nil)) (by rfl) (by rfl) (by rw [show ix.N = N + 1 from hN]; exact jj))

end Mine

end
section
open PySem PySem.Calls PySem.W PyProof.Rows
set_option Elab.async false
set_option autoImplicit false
set_option linter.unusedVariables false
set_option maxRecDepth 100000
namespace Mine
noncomputable abbrev b18 : List Stmt := bodyAt P1 18
noncomputable abbrev s18 : Scope := scopeAt P1 18
noncomputable abbrev g18 : List Stmt := inFor b18 1
variable {c : C} {b : Bool} {n N : Nat}
theorem cut_to {α : Type} (l : List α) (k : Nat) : cut l none (some (k : Int)) = l.take k := by
  unfold cut
  show (l.drop 0).take (clipAt l.length (k : Int) - 0) = _
  rw [clipAt_nat, List.drop_zero, Nat.sub_zero]
  rcases Nat.le_total k l.length with q | q
  · rw [Nat.min_eq_left q]
  · rw [Nat.min_eq_right q, List.take_of_length_le (Nat.le_refl _), List.take_of_length_le q]
theorem clip_neg (n k : Nat) (h : k ≤ n) (hk : 0 < k) : clipAt n (-(k : Int)) = n - k := by
  unfold clipAt
  rw [if_pos (Int.neg_neg_of_pos (Int.natCast_pos.mpr hk)), show -(k : Int) + (n : Int) = ((n - k : Nat) : Int) from by rw [Int.ofNat_sub h, Int.add_comm]; rfl, Int.min_eq_left (Int.ofNat_le.mpr (Nat.sub_le ..)), Int.max_eq_right (Int.natCast_nonneg _), Int.toNat_natCast]
theorem cut_last (A : List Nat) : cut A (some (-1)) none = A.getLast?.toList := by
  rcases List.eq_nil_or_concat A with rfl | ⟨A', x, rfl⟩
  · rfl
  · unfold cut
    show ((A'.concat x).drop (clipAt (A'.concat x).length (-((1 : Nat) : Int)))).take ((A'.concat x).length - clipAt (A'.concat x).length (-((1 : Nat) : Int))) = _
    rw [clip_neg _ 1 (by simp) (by decide)]
    simp
/-- the rows, from a place on: was the sign ahead a carriage return; the row so far -/
noncomputable def rowsR : List Nat → Bool → List Nat → List (List Nat)
  | [], _, cur => [cur]
  | d :: l, p, cur => if d ≠ 13 ∧ d ≠ 10 then rowsR l false (cur ++ [d]) else if d = 13 ∨ p = false then cur :: rowsR l (d == 13) [] else rowsR l (d == 13) cur
theorem rw_turn (W : Wd c) (m : Loc) (mu : MU) (i d : Nat) (A R : List Nat) (ini : List (List Nat)) (cur : List Nat) (h1 : m "mail" = some (.str (A ++ d :: R))) (h2 : m "rows" = some (.ml i)) (h3 : mu i = some (.list ((ini ++ [cur]).map .str))) (hl : (A ++ d :: R).length ≤ 1000) (hi : ini.length ≤ 1000) (hc : cur.length ≤ 1000) :
    ∃ ini' cur', ExS c b n s18 (execs g18) ⟨upd m "k" (.int (A.length : Int)), mu, N⟩ .next ⟨upd m "k" (.int (A.length : Int)), updM mu i (.list ((ini' ++ [cur']).map .str)), N⟩ ∧ ini'.length ≤ ini.length + 1 ∧ cur'.length ≤ cur.length + 1 ∧
      ∀ (l : List Nat), ini' ++ rowsR l (d == 13) cur' = ini ++ rowsR (d :: l) (decide (A.getLast? = some 13)) cur := by
  have hx : (A ++ d :: R)[A.length]? = some d := by simp
  have hidx : seqIndex? (A.length : Int) (A ++ d :: R).length = some A.length := seqIdx_nat (by simp)
  have hb : (A.length : Int) < 2 ^ 62 := by rw [List.length_append] at hl; omega
  have hA : cut (cut (A ++ d :: R) none (some (A.length : Int))) (some (-1)) none = A.getLast?.toList := by rw [cut_to, List.take_left' rfl, cut_last]
  have hput : ∀ (m : Loc) (x : List (List Nat)), x = ini ++ [cur] → (⟨m, mu, N⟩ : Sg) = ⟨m, updM mu i (.list (x.map .str)), N⟩ := fun m x e => by
    subst e
    congr 1
    funext k
    unfold updM
    split
    · rename_i h; rw [h]; exact h3
    · rfl
  by_cases hd : d ≠ 13 ∧ d ≠ 10
  · refine ⟨ini, cur ++ [d], ?_, by omega, by simp, fun l => ?_⟩
    · refine ExS.one (ExS.ifs (t := true) (fun ix hN => EvT.to (EvT.compare (EvS.item (by walk_at "n") (by walk_at "n") (.str _) (Op2.item_str hidx hx (by omega))) (by walk_at "s") (Op2.notin_str (b := [13, 10])) (by rfl)) (by simp [hd])) (fun _ => ?_) (fun h => by cases h))
      refine ExS.to (ExS.one (ExS.augLast (i := i) (l := (ini ++ [cur]).map .str) (a := .str cur) (v := .str [d]) (x := .str (cur ++ [d])) (by walk_at "kd") (by walk_at "nm") (by walk_at "nm") (by walk_at "lk") (by exact h3) (by simp) (fun ix hN => EvS.item (by walk_at "n") (by walk_at "n") (.str _) (Op2.item_str hidx hx (by omega))) (fun ix hN => Op2.iadd_str (by rw [List.length_append, sizeLine_eq]; simp; omega)))) ?_
      show Sg.mk _ _ _ = _
      congr 2
      unfold setLast
      simp
    · rw [show rowsR (d :: l) (decide (A.getLast? = some 13)) cur = rowsR l false (cur ++ [d]) from if_pos hd]
      have : (d == 13) = false := by simpa using hd.1
      rw [this]
  · have hin : d = 13 ∨ d = 10 := by
      rcases Nat.decEq d 13 with q | q
      · rcases Nat.decEq d 10 with q2 | q2
        · exact absurd ⟨q, q2⟩ hd
        · exact .inr q2
      · exact .inl q
    have h1t : ∀ m : Loc, m "mail" = some (.str (A ++ d :: R)) → m "k" = some (.int (A.length : Int)) → TvJ c b n s18 ⟨m, mu, N⟩ (fun env => isTrue (match g18[0]? with | some (Stmt.If t _ _ _) => t | _ => PySem.Expr.Constant .none 0 default) env (eval (match g18[0]? with | some (Stmt.If t _ _ _) => t | _ => PySem.Expr.Constant .none 0 default) env)) false := fun m q1 q2 ix hN =>
      EvT.to (EvT.compare (EvS.item (by walk_at "n") (by walk_at "n") (.str _) (Op2.item_str hidx hx (by omega))) (by walk_at "s") (Op2.notin_str (b := [13, 10])) (by rfl)) (by rcases hin with q | q <;> simp [q])
    have h2t : ∀ (m : Loc) (t : Bool), m "mail" = some (.str (A ++ d :: R)) → m "k" = some (.int (A.length : Int)) → (decide (d = 13) || !decide (A.getLast?.toList = [13])) = t → TvJ c b n s18 ⟨m, mu, N⟩ (fun env => isTrue (match (inElse g18 0)[0]? with | some (Stmt.If t _ _ _) => t | _ => PySem.Expr.Constant .none 0 default) env (eval (match (inElse g18 0)[0]? with | some (Stmt.If t _ _ _) => t | _ => PySem.Expr.Constant .none 0 default) env)) t := fun m t q1 q2 ht ix hN =>
      EvT.to (EvT.tbool (EvT.boolOr (EvT.compare (EvS.item (by walk_at "n") (by walk_at "n") (.str _) (Op2.item_str hidx hx (by omega))) (by walk_at "s") Op2.eq_str (by rfl)) fun _ => EvT.boolOr (EvT.compare (EvS.slice_str (EvS.slice_str (by walk_at "n") EvO.none (EvO.some (by walk_at "n"))) (EvO.some (EvS.unary EvS.cint Op1.neg_int)) EvO.none) (by walk_at "s") Op2.ne_str (by rfl)) fun _ => EvT.boolNil)) (by rw [hA, ← ht, show decide ([d] = [13]) = decide (d = 13) from by simp]; cases decide (d = 13) <;> cases decide (A.getLast?.toList = [13]) <;> rfl)
    have hlast : (decide (A.getLast?.toList = [13])) = decide (A.getLast? = some 13) := by
      cases A.getLast? <;> simp
    by_cases hn : d = 13 ∨ decide (A.getLast? = some 13) = false
    · refine ⟨ini ++ [cur], [], ?_, by simp, by simp, fun l => ?_⟩
      · refine ExS.one (ExS.ifs (t := false) (h1t _ (by walk_at "lk") (by walk_at "lk")) (fun h => by cases h) fun _ => ?_)
        refine ExS.one (ExS.ifs (t := true) (h2t _ true (by walk_at "lk") (by walk_at "lk") (by rw [hlast]; rcases hn with q | q <;> simp [q])) (fun _ => ?_) (fun h => by cases h))
        refine ExS.to (ExS.one (ExS.appendM (l := (ini ++ [cur]).map .str) (x := .str []) (i := i) (by walk_at "kd") (by walk_at "nm") (by walk_at "nm") (by rfl) (by walk_at "lk") (by exact h3) (by rw [List.length_map, List.length_append, sizeLine_eq]; simp; omega) (by rfl) (fun ix hN => by walk_at "s"))) ?_
        show Sg.mk _ _ _ = _
        congr 2
        simp
      · rw [show rowsR (d :: l) (decide (A.getLast? = some 13)) cur = cur :: rowsR l (d == 13) [] from (if_neg hd).trans (if_pos hn)]; simp
    · refine ⟨ini, cur, ?_, by omega, by omega, fun l => ?_⟩
      · refine ExS.one (ExS.ifs (t := false) (h1t _ (by walk_at "lk") (by walk_at "lk")) (fun h => by cases h) fun _ => ?_)
        refine ExS.to (ExS.one (ExS.ifs (t := false) (h2t _ false (by walk_at "lk") (by walk_at "lk") (by rw [hlast]; simp at hn; simp [hn])) (fun h => by cases h) fun _ => ExS.nil)) ?_
        exact hput _ _ rfl
      · rw [show rowsR (d :: l) (decide (A.getLast? = some 13)) cur = rowsR l (d == 13) cur from (if_neg hd).trans (if_neg hn)]
theorem rw_loop (W : Wd c) (mail : List Nat) (hl : mail.length ≤ 400) (i : Nat) : ∀ (R A : List Nat) (m : Loc) (mu : MU) (ini : List (List Nat)) (cur : List Nat), mail = A ++ R → m "mail" = some (.str mail) → m "rows" = some (.ml i) → mu i = some (.list ((ini ++ [cur]).map .str)) → ini.length + R.length ≤ 1000 → cur.length + R.length ≤ 1000 →
    ∃ m' mu', Fo c b n s18 "k" g18 (nV (List.range' A.length R.length)) ⟨m, mu, N⟩ .next ⟨m', mu', N⟩ ∧ m' "rows" = some (.ml i) ∧ mu' i = some (.list ((ini ++ rowsR R (decide (A.getLast? = some 13)) cur).map .str))
  | [], A, m, mu, ini, cur, e, h1, h2, h3, h4, h5 => ⟨m, mu, .nil, h2, h3⟩
  | d :: R, A, m, mu, ini, cur, e, h1, h2, h3, h4, h5 => by
    rw [List.length_cons] at h4 h5
    subst e
    obtain ⟨ini', cur', t1, t2, t3, t4⟩ := rw_turn (c := c) (b := b) (n := n) (N := N) W m mu i d A R ini cur h1 h2 h3 (by omega) (by omega) (by omega)
    obtain ⟨m', mu', f1, f2, f3⟩ := rw_loop W (A ++ d :: R) hl i R (A ++ [d]) (upd m "k" (.int (A.length : Int))) (updM mu i (.list ((ini' ++ [cur']).map .str))) ini' cur' (by simp) (by walk_at "lk") (by walk_at "lk") (if_pos rfl) (by omega) (by omega)
    refine ⟨m', mu', ?_, f2, ?_⟩
    · rw [List.length_cons, List.range'_succ]
      rw [List.length_append, List.length_singleton] at f1
      exact .turn t1 f1
    · have hq : decide ((A ++ [d]).getLast? = some 13) = (d == 13) := by rw [List.getLast?_append]; simp; rfl
      rw [f3, ← t4 R, hq]
noncomputable def rowsL (mail : List Nat) : List (List Nat) := rowsR mail false []
theorem rows_ok (W : Wd c) (mail : List Nat) (hl : mail.length ≤ 400) : FnS P1 c b n 18 ["mail"] [.str mail] (.lst ((rowsL mail).map .str)) N := by
  obtain ⟨m', mu', f1, f2, f3⟩ := rw_loop (c := c) (b := b) (n := n) (N := N + 1) W mail hl N mail [] (upd (argm ["mail"] [.str mail] fun _ => none) "rows" (.ml N)) (updM (fun _ => none) N (.list [.str []])) [] [] rfl (by walk_at "lk") (by walk_at "lk") (if_pos rfl) (by simp; omega) (by simp; omega)
  have it : Itr (.rng 0 (mail.length : Int) 1) (nV (List.range' 0 mail.length)) := by
    have := itr_nat mail.length (by omega)
    rw [List.range_eq_range'] at this; exact this
  refine ⟨.ml N, ⟨m', mu', N + 1⟩, ?_, ?_⟩
  · refine ExS.cons (ExS.assignList (l := [.str []]) (fun ix hN => EvL.cons (by rfl) (by walk_at "s") EvL.nil) (by rw [sizeLine_eq]; exact of_decide_eq_true rfl) (by walk_at "kd")) ?_
    refine ExS.cons (ExS.forR (x := .rng 0 (mail.length : Int) 1) (by walk_at "kd") (fun _ _ => rfl) (fun ix hN => EvS.callf W.range (by kernel_rfl) (by walk_at "nm") (fun a => nofun) (by rfl) (EvL.cons (by rfl) (EvS.callf W.len (by kernel_rfl) (by walk_at "nm") (fun a => nofun) (by rfl) (EvL.cons (by rfl) (by walk_at "n") EvL.nil) OpN.len_str) EvL.nil) OpN.range1) it f1) ?_
    exact ExS.one (ExS.ret fun ix hN => by walk_at "n")
  · refine .own f3 rfl fun k x y hx hy => ?_
    have : rowsL mail = [] ++ rowsR mail (decide (([] : List Nat).getLast? = some 13)) [] := rfl
    rw [← this] at hx
    rw [hx] at hy; cases hy
    rw [List.getElem?_map, Option.map_eq_some_iff] at hx
    obtain ⟨u, _, rfl⟩ := hx
    exact .str _

end Mine

end
section
open PySem PySem.Calls PySem.W PyProof.Rows
set_option Elab.async false
set_option autoImplicit false
set_option linter.unusedVariables false
set_option maxRecDepth 100000
namespace Mine
noncomputable abbrev b19 : List Stmt := bodyAt P1 19
noncomputable abbrev s19 : Scope := scopeAt P1 19
variable {c : C} {b : Bool} {n N : Nat}
noncomputable def mtL : List U → List Nat → Bool
  | [], [] => true
  | u :: us, d :: l => fits u d && mtL us l
  | _, _ => false
noncomputable def badAt (us : List U) (l : List Nat) (k : Nat) : Bool := decide (l.getD k 0 ∈ (us.getD k default).2) == (us.getD k default).1
theorem mtL_bad : ∀ (us : List U) (l : List Nat), l.length = us.length → mtL us l = decide ((List.range us.length).filter (badAt us l) = [])
  | [], [], _ => rfl
  | u :: us, d :: l, h => by
    have ih := mtL_bad us l (by simpa using h)
    show (fits u d && mtL us l) = _
    rw [ih, List.length_cons, List.range_succ_eq_map, List.filter_cons]
    have e0 : badAt (u :: us) (d :: l) 0 = (decide (d ∈ u.2) == u.1) := rfl
    have e1 : ((List.range us.length).map Nat.succ).filter (badAt (u :: us) (d :: l)) = ((List.range us.length).filter (badAt us l)).map Nat.succ := by
      rw [List.filter_map]; rfl
    rw [e0, e1]
    unfold fits
    cases hq : (decide (d ∈ u.2) == u.1) <;> simp
theorem mtL_len : ∀ (us : List U) (l : List Nat), l.length ≠ us.length → mtL us l = false
  | [], [], h => absurd rfl h
  | [], d :: l, _ => rfl
  | u :: us, [], _ => rfl
  | u :: us, d :: l, h => by
    show (fits u d && mtL us l) = false
    rw [mtL_len us l (by simpa using h), Bool.and_false]
noncomputable abbrev e19 : PySem.Expr := match asgV b19[0]? with
  | .BoolOp _ [_, .Compare e _ _ _] _ => e
  | e => e
noncomputable def ft_tst (us : List U) (l : List Nat) : V → Bool
  | .int k => badAt us l k.toNat
  | _ => false
theorem ft_map (us : List U) (l : List Nat) (ks : List Nat) : ((nV ks).filter (ft_tst us l)).map (fun x => x) = nV (ks.filter (badAt us l)) := by
  unfold nV
  rw [List.filter_map, List.map_id']
  congr 1
theorem ft_comp (m : Loc) (mu : MU) (ix : IX) (us : List U) (l : List Nat) (hl : l.length = us.length) (hs : us.length ≤ 1000) (h1 : m "items" = some (.lst (us.map uV))) (h2 : m "signs" = some (.str l)) :
    CompRun c ⟨b, n, s19, m, mu, ix⟩ (cElt e19) (cIfs e19) (cScope e19) "k" (nV (List.range us.length)) (ft_tst us l) (fun x => x) where
  ok := CompOk.mk' (fs := ["items", "signs"]) (by kernel_rfl) (by kernel_rfl) (by kernel_rfl) (by rfl) (by kernel_rfl) (by show (relS (cScope e19) s19).names.lookup _ ≠ _; decide +kernel) (fun y hy => by
    simp at hy; rcases hy with rfl | rfl
    · show (m _).isSome = true; rw [h1]; rfl
    · show (m _).isSome = true; rw [h2]; rfl)
  flat := fun y hy => by obtain ⟨k, _, rfl⟩ := List.mem_map.mp hy; rfl
  size := by unfold nV; rw [List.length_map, List.length_range, sizeLine_eq]; omega
  tests := fun y hy => by
    obtain ⟨k, hk, rfl⟩ := List.mem_map.mp hy
    rw [List.mem_range] at hk
    have e1 : compM m (cScope e19) "k" (.int (k : Int)) "k" = some (.int (k : Int)) := compM_x
    have e2 : compM m (cScope e19) "k" (.int (k : Int)) "items" = some (.lst (us.map uV)) := (compM_free (by decide +kernel) (by decide +kernel)).trans h1
    have e3 : compM m (cScope e19) "k" (.int (k : Int)) "signs" = some (.str l) := (compM_free (by decide +kernel) (by decide +kernel)).trans h2
    have hu : (us.map uV)[k]? = some (uV (us.getD k default)) := by rw [List.getElem?_map, List.getD_eq_getElem?_getD, List.getElem?_eq_getElem hk]; rfl
    have hd : l[k]? = some (l.getD k 0) := by rw [List.getD_eq_getElem?_getD, List.getElem?_eq_getElem (by omega)]; rfl
    have hk1 : seqIndex? (k : Int) (us.map uV).length = some k := seqIdx_nat (by rw [List.length_map]; exact hk)
    have hk2 : seqIndex? (k : Int) l.length = some k := seqIdx_nat (by omega)
    refine EvT.oneTest ?_
    refine EvT.to (EvT.compare (EvS.compare (EvS.item (by walk_at "nc") (by walk_at "n") (.str l) (Op2.item_str hk2 hd (by omega))) (EvS.item (EvS.item (by walk_at "nc") (by walk_at "n") (.lst (l := us.map uV) rfl) (Op2.item_list (l := us.map uV) rfl hk1 hu (by omega))) EvS.cint (.tup _) (Op2.item_tup (k := 1) (by rfl) (by rfl) (by decide))) Op2.in_str (by rfl)) (EvS.item (EvS.item (by walk_at "nc") (by walk_at "n") (.lst (l := us.map uV) rfl) (Op2.item_list (l := us.map uV) rfl hk1 hu (by omega))) EvS.cint (.tup _) (Op2.item_tup (k := 0) (by rfl) (by rfl) (by decide))) Op2.eq_bool (by rfl)) ?_
    show _ = badAt us l (k : Int).toNat
    rw [Int.toNat_natCast]; rfl
  elt := fun y hy _ => by
    obtain ⟨k, _, rfl⟩ := List.mem_map.mp hy
    have e1 : compM m (cScope e19) "k" (.int (k : Int)) "k" = some (.int (k : Int)) := compM_x
    exact ⟨rfl, by walk_at "n"⟩
theorem fits_ok (W : Wd c) (us : List U) (l : List Nat) (hs : us.length ≤ 900) : FnS P1 c b n 19 ["items", "signs"] [.lst (us.map uV), .str l] (.bool (mtL us l)) N := by
  refine ⟨.bool (mtL us l), ⟨argm ["items", "signs"] [.lst (us.map uV), .str l] fun _ => none, fun _ => none, N⟩, ExS.one (ExS.ret fun ix hN => ?_), .bool _⟩
  refine EvS.and2 (a := .bool (decide ((l.length : Int) = (us.length : Int)))) (t := decide ((l.length : Int) = (us.length : Int))) (EvS.compare (EvS.callf W.len (by kernel_rfl) (by walk_at "nm") (fun a => nofun) (by rfl) (EvL.cons (by rfl) (by walk_at "nc") EvL.nil) OpN.len_str) (EvS.to (EvS.callf W.len (by kernel_rfl) (by walk_at "nm") (fun a => nofun) (by rfl) (EvL.cons (by rfl) (by walk_at "nc") EvL.nil) (OpN.len_list (l := us.map uV) (by rfl))) (by rw [List.length_map])) Op2.eq_int (by rfl)) OpT.bool (fun h => ?_) (fun h => ?_)
  · have hl : l.length = us.length := by have := of_decide_eq_true h; omega
    rw [mtL_bad us l hl]
    refine EvS.to (EvS.compare (a := .lst (nV ((List.range us.length).filter (badAt us l)))) (EvS.to (EvS.comp (x := "k") (xv := .rng 0 (us.length : Int) 1) (l := nV (List.range us.length)) (tst := ft_tst us l) (g := fun x => x) (EvS.to (EvS.callf W.range (by kernel_rfl) (by walk_at "nm") (fun a => nofun) (by rfl) (EvL.cons (by rfl) (EvS.callf W.len (by kernel_rfl) (by walk_at "nm") (fun a => nofun) (by rfl) (EvL.cons (by rfl) (by walk_at "nc") EvL.nil) (OpN.len_list (l := us.map uV) (by rfl))) EvL.nil) OpN.range1) (by rw [List.length_map])) (itr_nat _ (by omega)) (fun _ _ => rfl) (ft_comp _ _ ix us l hl (by omega) (by walk_at "lk") (by walk_at "lk"))) (by rw [ft_map])) (EvS.list EvL.nil (Nat.zero_le _)) (Op2.eq_ints (by rfl) (by rfl) (nV_of _) (ms := []) (by rfl)) (by rfl)) ?_
    congr 1
    rw [decide_eq_decide, List.map_eq_nil_iff]
  · rw [h, mtL_len us l (by have := of_decide_eq_false h; omega)]

end Mine

end
section
open PySem PySem.Calls PySem.W PyProof.Rows
set_option Elab.async false
set_option autoImplicit false
set_option linter.unusedVariables false
set_option maxRecDepth 100000
namespace Mine
noncomputable abbrev b20 : List Stmt := bodyAt P1 20
noncomputable abbrev s20 : Scope := scopeAt P1 20
noncomputable abbrev g20 : List Stmt := inFor b20 2
variable {c : C} {b : Bool} {n N : Nat}
theorem cut_span {α : Type} (l : List α) (a k : Nat) (h : a ≤ l.length) : cut l (some (a : Int)) (some ((a : Int) + (k : Int))) = (l.drop a).take k := by
  unfold cut
  show ((l.drop (clipAt l.length (a : Int))).take (clipAt l.length ((a : Int) + (k : Int)) - clipAt l.length (a : Int))) = _
  rw [show (a : Int) + (k : Int) = ((a + k : Nat) : Int) from rfl, clipAt_nat, clipAt_nat, Nat.min_eq_left h]
  rcases Nat.le_total (a + k) l.length with q | q
  · rw [Nat.min_eq_left q, Nat.add_sub_cancel_left]
  · rw [Nat.min_eq_right q, List.take_of_length_le (by rw [List.length_drop]; exact Nat.le_refl _), List.take_of_length_le (by rw [List.length_drop]; omega)]
noncomputable def here (us : List U) (l : List Nat) (bs : List Nat) : Nat := if mtL us (l.take us.length) = true then 1 + bs.getD (us.length - 1) 0 else 0
noncomputable def bests (us : List U) : List Nat → List Nat
  | [] => [0]
  | a :: l => max ((bests us l).getD 0 0) (here us (a :: l) (bests us l)) :: bests us l
theorem bests_len (us : List U) : ∀ l, (bests us l).length = l.length + 1
  | [] => rfl
  | a :: l => by show (bests us l).length + 1 = _; rw [bests_len us l]; rfl
theorem mtL_eq {us : List U} {l : List Nat} (h : mtL us l = true) : l.length = us.length := by
  by_cases q : l.length = us.length
  · exact q
  · rw [mtL_len us l q] at h; cases h
theorem due_turn (W : Wd1 c) (us : List U) (hm : 1 ≤ us.length) (hus : us.length ≤ 900) (m : Loc) (mu : MU) (A S : List Nat) (a : Nat) (hl : (A ++ a :: S).length ≤ 900) (h1 : m "signs" = some (.str (A ++ a :: S))) (h2 : m "items" = some (.lst (us.map uV))) (h3 : m "best" = some (.lst (nV (bests us S)))) :
    ∃ m', ExS c b (n + 1) s20 (execs g20) ⟨upd m "k" (.int (A.length : Int)), mu, N⟩ .next ⟨m', mu, N⟩ ∧ m' "best" = some (.lst (nV (bests us (a :: S)))) ∧ m' "signs" = some (.str (A ++ a :: S)) ∧ m' "items" = some (.lst (us.map uV)) := by
  have hbl := bests_len us S
  have hcut : cut (A ++ a :: S) (some (A.length : Int)) (some ((A.length : Int) + (us.length : Int))) = (a :: S).take us.length := by
    rw [cut_span _ _ _ (by simp), List.drop_left' rfl]
  have hlen : ∀ {j : J} {e : PySem.Expr} {p q : Pos}, j.m "items" = some (.lst (us.map uV)) → True := fun _ => trivial
  have h0 : (nV (bests us S))[0]? = some (V.int (((bests us S).getD 0 0 : Nat) : Int)) := by
    unfold nV
    rw [List.getElem?_map, List.getD_eq_getElem?_getD, List.getElem?_eq_getElem (show 0 < (bests us S).length from by omega)]; rfl
  have i0 : seqIndex? 0 (nV (bests us S)).length = some 0 := by
    unfold nV; rw [List.length_map, hbl]; exact seqIdx_nat (a := 0) (by omega)
  refine ⟨upd (upd (upd m "k" (.int (A.length : Int))) "here" (.int ((here us (a :: S) (bests us S) : Nat) : Int))) "best" (.lst (nV (bests us (a :: S)))), ?_, by walk_at "lk", by walk_at "lk", by walk_at "lk"⟩
  refine ExS.cons (ExS.assign (x := .int ((here us (a :: S) (bests us S) : Nat) : Int)) (fun ix hN => EvS.ifexp (tv := mtL us ((a :: S).take us.length)) (EvT.plain (by rfl) (EvS.own (P := P1) (n' := n) W.g112 (by kernel_rfl) (by walk_at "nm") W.F112 (by rfl) (EvL.cons (by rfl) (by walk_at "n") (EvL.cons (by rfl) (EvS.to (EvS.slice_str (by walk_at "n") (EvO.some (by walk_at "n")) (EvO.some (EvS.binop (by walk_at "n") (EvS.to (EvS.callf W.w.len (by kernel_rfl) (by walk_at "nm") (fun a => nofun) (by rfl) (EvL.cons (by rfl) (by walk_at "n") EvL.nil) (OpN.len_list (l := us.map uV) (by rfl))) (by rw [List.length_map])) Op2.add_int))) (by rw [hcut])) EvL.nil)) (by rfl) (by rfl) (fits_ok W.w us _ hus)) OpT.bool) (fun h => ?_) (fun h => EvS.to EvS.cint ?_)) (by walk_at "kd") (fun _ => rfl)) ?_
  · have hle : us.length ≤ (a :: S).length := by
      have := mtL_eq h
      rw [List.length_take] at this; omega
    have hS : us.length - 1 < (bests us S).length := by rw [hbl]; simp at hle; omega
    have hk : (nV (bests us S))[us.length - 1]? = some (V.int (((bests us S).getD (us.length - 1) 0 : Nat) : Int)) := by
      unfold nV
      rw [List.getElem?_map, List.getD_eq_getElem?_getD, List.getElem?_eq_getElem hS]; rfl
    have ik : seqIndex? ((us.length : Int) - 1) (nV (bests us S)).length = some (us.length - 1) := by
      rw [show (us.length : Int) - 1 = ((us.length - 1 : Nat) : Int) from by omega]
      unfold nV; rw [List.length_map]; exact seqIdx_nat hS
    refine EvS.to (EvS.binop EvS.cint (EvS.item (a := .lst (nV (bests us S))) (by clear h; walk_at "n") (EvS.binop (EvS.to (EvS.callf (l := [.lst (us.map uV)]) W.w.len (by kernel_rfl) (by walk_at "nm") (fun a => nofun) (by rfl) (EvL.cons (by rfl) (by clear h; walk_at "n") EvL.nil) (OpN.len_list (l := us.map uV) (by rfl))) (by rw [List.length_map])) EvS.cint Op2.sub_int) (.lst (l := nV (bests us S)) rfl) (Op2.item_list (l := nV (bests us S)) rfl ik hk (by omega))) Op2.add_int) ?_
    unfold here; rw [if_pos h]; exact congrArg V.int (by omega)
  · unfold here; rw [if_neg (by rw [h]; exact Bool.false_ne_true)]; rfl
  refine ExS.one (ExS.assign (x := .lst (nV (bests us (a :: S)))) (fun ix hN => EvS.to (EvS.binop (a := .lst [.int ((max ((bests us S).getD 0 0) (here us (a :: S) (bests us S)) : Nat) : Int)]) (b := .lst (nV (bests us S))) (EvS.list (EvL.cons (by rfl) (EvS.to (EvS.callf W.w.max (by kernel_rfl) (by walk_at "nm") (fun a => nofun) (by rfl) (EvL.cons (by rfl) (EvS.item (by walk_at "n") EvS.cint (.lst (l := nV (bests us S)) rfl) (Op2.item_list (l := nV (bests us S)) rfl i0 h0 (by omega))) (EvL.cons (by rfl) (by walk_at "n") EvL.nil)) OpN.max2) ?_) EvL.nil) (by walk_at "sz")) (by walk_at "n") (Op2.add_list (by rfl) (by rfl) ?_)) (by rfl)) (by walk_at "kd") (fun _ => rfl))
  · congr 1
    split <;> omega
  · unfold nV; simp [sizeLine_eq] at hl ⊢; rw [hbl]; omega
theorem due_loop (W : Wd1 c) (us : List U) (hm : 1 ≤ us.length) (hus : us.length ≤ 900) (signs : List Nat) (hl : signs.length ≤ 900) (mu : MU) : ∀ (k : Nat) (m : Loc), k ≤ signs.length → m "signs" = some (.str signs) → m "items" = some (.lst (us.map uV)) → m "best" = some (.lst (nV (bests us (signs.drop k)))) →
    ∃ m', Fo c b (n + 1) s20 "k" g20 (nV (List.range k).reverse) ⟨m, mu, N⟩ .next ⟨m', mu, N⟩ ∧ m' "best" = some (.lst (nV (bests us signs)))
  | 0, m, hk, h1, h2, h3 => ⟨m, .nil, by rw [h3, List.drop_zero]⟩
  | k + 1, m, hk, h1, h2, h3 => by
    have hA : (signs.take k).length = k := by rw [List.length_take]; omega
    have e : signs = signs.take k ++ signs[k] :: signs.drop (k + 1) := by rw [← List.drop_eq_getElem_cons (by omega), List.take_append_drop]
    have ed : signs[k] :: signs.drop (k + 1) = signs.drop k := (List.drop_eq_getElem_cons (by omega)).symm
    obtain ⟨m1, t1, t2, t3, t4⟩ := due_turn (c := c) (b := b) (n := n) (N := N) W us hm hus m mu (signs.take k) (signs.drop (k + 1)) signs[k] (by rw [← e]; exact hl) (by rw [← e]; exact h1) h2 h3
    rw [hA] at t1
    rw [← e] at t3
    rw [ed] at t2
    obtain ⟨m', f1, f2⟩ := due_loop W us hm hus signs hl mu k m1 (by omega) t3 t4 t2
    refine ⟨m', ?_, f2⟩
    rw [List.range_succ, List.reverse_append]
    exact .turn t1 f1
noncomputable def signsL (rows : List (List Nat)) : List Nat := 13 :: 10 :: joinL [13, 10] rows
noncomputable def dueL (us : List U) (l : List Nat) : Nat := (bests us l).getD 0 0
theorem due_ok (W : Wd1 c) (us : List U) (hm : 1 ≤ us.length) (hus : us.length ≤ 900) (rows : List (List Nat)) (hr : rows.length ≤ 400) (hl : (signsL rows).length ≤ 900) : FnS P1 c b (n + 1) 20 ["items", "rows"] [.lst (us.map uV), .lst (rows.map .str)] (.int ((dueL us (signsL rows) : Nat) : Int)) N := by
  have hbl := bests_len us (signsL rows)
  have h0 : (nV (bests us (signsL rows)))[0]? = some (V.int ((dueL us (signsL rows) : Nat) : Int)) := by
    unfold nV dueL
    rw [List.getElem?_map, List.getD_eq_getElem?_getD, List.getElem?_eq_getElem (show 0 < (bests us (signsL rows)).length from by omega)]; rfl
  have i0 : seqIndex? 0 (nV (bests us (signsL rows))).length = some 0 := by
    unfold nV; rw [List.length_map, hbl]; exact seqIdx_nat (a := 0) (by omega)
  have hj : (joinL [13, 10] rows).length ≤ 900 := by unfold signsL at hl; simp at hl; omega
  have hsum : ∀ xs : List (List Nat), (xs.map List.length).sum ≤ (joinL [13, 10] xs).length := fun xs => by
    cases xs with
    | nil => exact Nat.le_refl _
    | cons x xs =>
      have : ∀ ys : List (List Nat), (ys.map List.length).sum ≤ ((ys.map ([13, 10] ++ ·)).flatten).length := fun ys => by
        induction ys with
        | nil => exact Nat.le_refl _
        | cons y ys ih => simp at ih ⊢; omega
      have h1 := this xs
      show x.length + (xs.map List.length).sum ≤ (x ++ (xs.map ([13, 10] ++ ·)).flatten).length
      rw [List.length_append]; omega
  have hs := hsum rows
  obtain ⟨m', f1, f2⟩ := due_loop (c := c) (b := b) (n := n) (N := N) W us hm hus (signsL rows) hl (fun _ => none) (signsL rows).length (upd (upd (argm ["items", "rows"] [.lst (us.map uV), .lst (rows.map .str)] fun _ => none) "signs" (.str (signsL rows))) "best" (.lst (nV (bests us ((signsL rows).drop (signsL rows).length))))) (Nat.le_refl _) (by walk_at "lk") (by walk_at "lk") (by walk_at "lk")
  have hb0 : bests us ((signsL rows).drop (signsL rows).length) = [0] := by rw [List.drop_length]; rfl
  rw [hb0] at f1
  refine ⟨.int ((dueL us (signsL rows) : Nat) : Int), ⟨m', fun _ => none, N⟩, ?_, .int _⟩
  refine ExS.cons (ExS.assign (x := .str (signsL rows)) (fun ix hN => EvS.to (EvS.binop (EvS.const (l := [13, 10]) (by walk_at "cn") (by walk_at "sz")) (EvS.to (EvS.meth (T := "str") (id := "str.join") (fun _ => rfl) (by decide) (by rfl) PySem.F.plainAttrs_str PySem.F.slot_str_join PySem.F.type_str_join str_TypeIs (EvS.const (l := [13, 10]) (by walk_at "cn") (by walk_at "sz")) (by rfl) (EvL.cons (by rfl) (by walk_at "n") EvL.nil) (OpN.join (ns := rows) (by rfl) (strsOf_map _) (by rw [sizeLine_eq]; simp only [List.length_cons, List.length_nil]; omega))) (by rw [joinV_eq])) (Op2.add_str (by rw [List.length_append, sizeLine_eq]; simp; omega))) (by rfl)) (by walk_at "kd") (fun _ => rfl)) ?_
  refine ExS.cons (ExS.assign (x := .lst (nV [0])) (fun ix hN => EvS.list (EvL.cons (by rfl) EvS.cint EvL.nil) (by rw [sizeLine_eq]; exact of_decide_eq_true rfl)) (by walk_at "kd") (fun _ => rfl)) ?_
  refine ExS.cons (ExS.forR (x := .rng (((signsL rows).length : Int) - 1) (-1) (-1)) (by walk_at "kd") (fun _ _ => rfl) (fun ix hN => EvS.callf W.w.range (by kernel_rfl) (by walk_at "nm") (fun a => nofun) (by rfl) (EvL.cons (by rfl) (EvS.binop (EvS.callf W.w.len (by kernel_rfl) (by walk_at "nm") (fun a => nofun) (by rfl) (EvL.cons (by rfl) (by walk_at "n") EvL.nil) OpN.len_str) EvS.cint Op2.sub_int) (EvL.cons (by rfl) (EvS.unary EvS.cint Op1.neg_int) (EvL.cons (by rfl) (EvS.unary EvS.cint Op1.neg_int) EvL.nil))) (OpN.range3 (by decide) (by unfold Builtin.divisionGoesByPylong; rw [Bool.and_eq_false_imp]; intro h; exact absurd h (by decide +kernel)))) (itr_down _ (by omega)) f1) ?_
  exact ExS.one (ExS.ret fun ix hN => EvS.item (by walk_at "n") EvS.cint (.lst (l := nV (bests us (signsL rows))) rfl) (Op2.item_list (l := nV (bests us (signsL rows))) rfl i0 h0 (by omega)))

end Mine

end
section
open PySem PySem.Calls PySem.W PyProof.Rows
set_option Elab.async false
set_option autoImplicit false
set_option linter.unusedVariables false
set_option maxRecDepth 100000
namespace Mine
noncomputable abbrev b21 : List Stmt := bodyAt P1 21
noncomputable abbrev s21 : Scope := scopeAt P1 21
variable {c : C} {b : Bool} {n N : Nat}
noncomputable def alnum : List Nat := (Str.ofString "abcdefghijklmnopqrstuvwxyzABCDEFGHIJKLMNOPQRSTUVWXYZ0123456789").cps.toList
noncomputable def metas : List Nat := [94, 36, 42, 43, 63, 123, 124, 40, 41]
noncomputable def lastU (l : List Nat) (q d : Nat) : U := if d ∈ l then (false, []) else if q = 46 then (true, []) else (false, [d])
/-- how a group falls into units: the first unit, its length -/
inductive Par : List Nat → List U → Prop
  | nil : Par [] []
  | esc {d : Nat} {r : List Nat} {us : List U} : Par r us → Par (92 :: d :: r) (lastU alnum 92 d :: us)
  | one {d : Nat} {r : List Nat} {us : List U} : d ≠ 92 → d ≠ 91 → Par r us → Par (d :: r) (lastU metas d d :: us)
  | cls {g : Nat} {t r : List Nat} {us : List U} : 93 ∉ g :: t → 92 ∉ g :: t → Par r us → Par (91 :: g :: t ++ 93 :: r) ((if g = 94 then (true, t) else (false, g :: t)) :: us)
theorem spl_two {l : List Nat} {x : Nat} (h : 92 ∉ l) : splL [92, x] l = [l] := by
  induction l with
  | nil => exact splL_nil (by simp)
  | cons a l ih =>
    have ha : a ≠ 92 := fun e => h (by rw [e]; exact List.mem_cons_self ..)
    have hb : (92 == a) = false := by simpa using fun e : 92 = a => ha e.symm
    rw [splL_cons (by simp) (by simp [List.isPrefixOf, hb]), ih (fun q => h (List.mem_cons_of_mem _ q))]; rfl
theorem repl_two {l z : List Nat} {x : Nat} (h : 92 ∉ l) : replV l [92, x] z = l := by
  rw [replV_eq (by simp), spl_two h, joinL_one]
theorem rep2 {j : J} {e : PySem.Expr} {X : List Nat} {ap1 ap2 cp1 cp2 p1 p2 p3 p4 : Pos} {k1 k2 k3 k4 : Nat} (hb1 : ∀ env, attributeBase e "replace" env (eval e env) = eval e env) (hl1 : (ap1.endLine == cp1.line) = true) (hl2 : (ap2.endLine == cp2.line) = true)
    (h : EvS c j (eval e) (.str X)) (h92 : 92 ∉ X) (hX : X.length ≤ 100000) :
    EvS c j (eval (.Call (.Attribute (.Call (.Attribute e "replace" ap1) [.Constant (.str (Str.ofString "\\n")) k1 p1, .Constant (.str (Str.ofString "\n")) k2 p2] [] cp1) "replace" ap2) [.Constant (.str (Str.ofString "\\r")) k3 p3, .Constant (.str (Str.ofString "\r")) k4 p4] [] cp2)) (.str X) := by
  have e1 : txt (Str.ofString "\\n") = [92, 110] := by unfold txt; simp [strCps]
  have e2 : txt (Str.ofString "\\r") = [92, 114] := by unfold txt; simp [strCps]
  have r1 := EvS.repl1 (c := c) (j := j) (k1 := k1) (k2 := k2) (p1 := p1) (p2 := p2) (y := Str.ofString "\\n") (z := Str.ofString "\n") hb1 hl1 h (by decide +kernel) (by rw [show (Str.ofString "\n").length = 1 from by decide +kernel]; omega)
  rw [e1, repl_two h92] at r1
  have r2 := EvS.repl1 (c := c) (j := j) (k1 := k3) (k2 := k4) (p1 := p3) (p2 := p4) (y := Str.ofString "\\r") (z := Str.ofString "\r") (fun _ => rfl) hl2 r1 (by decide +kernel) (by rw [show (Str.ofString "\r").length = 1 from by decide +kernel]; omega)
  rw [e2, repl_two h92] at r2
  exact r2
theorem cut_none {α : Type} (l : List α) (i : Int) : cut l (some i) (some i) = [] := by
  unfold cut
  show (l.drop (clipAt l.length i)).take (clipAt l.length i - clipAt l.length i) = []
  rw [Nat.sub_self, List.take_zero]
theorem un_esc (W : Wd c) (m : Loc) (mu : MU) (i : Nat) (acc : List U) (pre r : List Nat) (d : Nat) (hm1 : m "group" = some (.str (pre ++ 92 :: d :: r))) (hm2 : m "k" = some (.int (pre.length : Int))) (hm3 : m "units" = some (.ml i)) (hi : mu i = some (.list (acc.map uV)))
    (hl : acc.length + 1 ≤ sizeLine) (hk : (pre ++ 92 :: d :: r).length ≤ 100000) :
    ∃ m', ExS c b n s21 (execs (inFor b21 2)) ⟨m, mu, N⟩ .next ⟨m', updM mu i (.list ((acc ++ [lastU alnum 92 d]).map uV)), N⟩ ∧ m' "group" = some (.str (pre ++ 92 :: d :: r)) ∧ m' "k" = some (.int ((pre ++ [92, d]).length : Int)) ∧ m' "units" = some (.ml i) := by
  have hx : (pre ++ 92 :: d :: r)[pre.length]? = some 92 := by simp
  have hidx : seqIndex? (pre.length : Int) (pre ++ 92 :: d :: r).length = some pre.length := seqIdx_nat (by simp)
  have hy : (pre ++ 92 :: d :: r)[pre.length + 1]? = some d := by simp
  have hidy : seqIndex? ((pre.length + 1 : Nat) : Int) (pre ++ 92 :: d :: r).length = some (pre.length + 1) := seqIdx_nat (by simp)
  have hb : (pre.length : Int) < 2 ^ 62 := by rw [List.length_append] at hk; omega
  refine ⟨upd (upd (upd (upd m "size" (.int 2)) "last" (.str [d])) "inner" (.str [])) "k" (.int ((pre.length : Int) + 2)), ?_, ?_, ?_, ?_⟩
  · refine ExS.cons (ExS.assign (x := .int 2) (fun ix hN => EvS.ifexp (tv := true) (EvT.to (EvT.compare (EvS.item (by walk_at "n") (by walk_at "n") (.str _) (Op2.item_str (k := pre.length) (d := 92) (by exact hidx) (by exact hx) (by omega))) (by walk_at "s") Op2.eq_str (by rfl)) (by rfl)) (fun _ => EvS.cint) (fun h => by cases h)) (by walk_at "kd") (fun _ => rfl)) ?_
    refine ExS.cons (ExS.assignSwap (ys := ["inner", "last"]) (xs := [.str [], .str [d]]) (fun y hy => by simp at hy; rcases hy with rfl | rfl <;> walk_at "kd") (by rfl) (fun ix hN => EvS.tuple (EvL.cons (by rfl) (rep2 (fun _ => rfl) (by rfl) (by rfl) (EvS.to (EvS.slice_str (by walk_at "n") (EvO.some (EvS.binop (by walk_at "n") EvS.cint Op2.add_int)) (EvO.some (EvS.binop (EvS.binop (by walk_at "n") (by walk_at "n") Op2.add_int) EvS.cint Op2.sub_int))) (by rw [show (pre.length : Int) + 2 - 1 = (pre.length : Int) + 1 from by omega, cut_none])) (by simp) (by simp)) (EvL.cons (by rfl)
      (EvS.item (by walk_at "n") (EvS.binop (EvS.binop (by walk_at "n") (by walk_at "n") Op2.add_int) EvS.cint Op2.sub_int) (.str _) (Op2.item_str (k := pre.length + 1) (d := d) (by rw [show (pre.length : Int) + 2 - 1 = ((pre.length + 1 : Nat) : Int) from by omega]; exact hidy) (by exact hy) (by omega))) EvL.nil)) (by walk_at "sz")) (fun env => rfl) (fun env he => by cases env; cases he; kernel_rfl)) ?_
    by_cases hal : d ∈ alnum
    · have e1 : (acc ++ [lastU alnum 92 d]).map uV = acc.map uV ++ [.tup [.bool false, .str []]] := by rw [List.map_append]; unfold lastU; rw [if_pos hal]; rfl
      rw [e1]
      exact ExS.cons (ExS.ifs (t := false) (fun ix hN => EvT.to (EvT.compare (EvS.item (by walk_at "n") (by walk_at "n") (.str _) (Op2.item_str (k := pre.length) (d := 92) (by exact hidx) (by exact hx) (by omega))) (by walk_at "s") Op2.eq_str (by rfl)) (by rfl)) (fun h => by cases h) (fun _ => ExS.one (ExS.ifs (t := true) (fun ix hN => EvT.to (EvT.compare (by walk_at "n") (EvS.ifexp (tv := false) (EvT.to (EvT.compare (by walk_at "n") EvS.cint Op2.eq_int (by rfl)) (by rfl)) (fun h => by cases h) (fun _ => EvS.cstr (by decide))) Op2.in_str (by rfl)) (by exact decide_eq_true hal)) (fun _ => (ExS.one (ExS.appendM (l := acc.map uV) (i := i) (x := .tup [.bool false, .str []]) (by walk_at "kd") (by walk_at "nm") (by walk_at "nm") (by rfl) (by walk_at "lk") (by exact hi) (by simpa using hl) (by rfl) (fun ix hN => EvS.tuple (EvL.cons (by rfl) EvS.cbool (EvL.cons (by rfl) (by walk_at "s") EvL.nil)) (by walk_at "sz"))))) (fun h => by cases h)))) (ExS.one (ExS.aug (by walk_at "kd") (by walk_at "nm") (by walk_at "lk") (fun ix hN => by walk_at "n") (fun ix hN => Op2.iadd_int)))
    · have e1 : (acc ++ [lastU alnum 92 d]).map uV = acc.map uV ++ [.tup [.bool false, .str [d]]] := by rw [List.map_append]; unfold lastU; rw [if_neg hal]; rfl
      rw [e1]
      exact ExS.cons (ExS.ifs (t := false) (fun ix hN => EvT.to (EvT.compare (EvS.item (by walk_at "n") (by walk_at "n") (.str _) (Op2.item_str (k := pre.length) (d := 92) (by exact hidx) (by exact hx) (by omega))) (by walk_at "s") Op2.eq_str (by rfl)) (by rfl)) (fun h => by cases h) (fun _ => ExS.one (ExS.ifs (t := false) (fun ix hN => EvT.to (EvT.compare (by walk_at "n") (EvS.ifexp (tv := false) (EvT.to (EvT.compare (by walk_at "n") EvS.cint Op2.eq_int (by rfl)) (by rfl)) (fun h => by cases h) (fun _ => EvS.cstr (by decide))) Op2.in_str (by rfl)) (by exact decide_eq_false hal)) (fun h => by cases h) (fun _ => (ExS.one (ExS.appendM (l := acc.map uV) (i := i) (x := .tup [.bool false, .str [d]]) (by walk_at "kd") (by walk_at "nm") (by walk_at "nm") (by rfl) (by walk_at "lk") (by exact hi) (by simpa using hl) (by rfl) (fun ix hN => EvS.ifexp (tv := false) (EvT.to (EvT.compare (EvS.item (by walk_at "n") (by walk_at "n") (.str _) (Op2.item_str (k := pre.length) (d := 92) (by exact hidx) (by exact hx) (by omega))) (by walk_at "s") Op2.eq_str (by rfl)) (by rfl)) (fun h => by cases h) (fun _ => EvS.tuple (EvL.cons (by rfl) EvS.cbool (EvL.cons (by rfl) (by walk_at "n") EvL.nil)) (by walk_at "sz"))))))))) (ExS.one (ExS.aug (by walk_at "kd") (by walk_at "nm") (by walk_at "lk") (fun ix hN => by walk_at "n") (fun ix hN => Op2.iadd_int)))
  · walk_at "lk"
  · show upd _ _ _ _ = _
    rw [upd_self]; simp
  · walk_at "lk"
theorem un_one (W : Wd c) (m : Loc) (mu : MU) (i : Nat) (acc : List U) (pre r : List Nat) (d : Nat) (h92 : d ≠ 92) (h91 : d ≠ 91) (hm1 : m "group" = some (.str (pre ++ d :: r))) (hm2 : m "k" = some (.int (pre.length : Int))) (hm3 : m "units" = some (.ml i)) (hi : mu i = some (.list (acc.map uV)))
    (hl : acc.length + 1 ≤ sizeLine) (hk : (pre ++ d :: r).length ≤ 100000) :
    ∃ m', ExS c b n s21 (execs (inFor b21 2)) ⟨m, mu, N⟩ .next ⟨m', updM mu i (.list ((acc ++ [lastU metas d d]).map uV)), N⟩ ∧ m' "group" = some (.str (pre ++ d :: r)) ∧ m' "k" = some (.int ((pre ++ [d]).length : Int)) ∧ m' "units" = some (.ml i) := by
  have hx : (pre ++ d :: r)[pre.length]? = some d := by simp
  have hidx : seqIndex? (pre.length : Int) (pre ++ d :: r).length = some pre.length := seqIdx_nat (by simp)
  have hb : (pre.length : Int) < 2 ^ 62 := by rw [List.length_append] at hk; omega
  refine ⟨upd (upd (upd (upd m "size" (.int 1)) "last" (.str [d])) "inner" (.str [])) "k" (.int ((pre.length : Int) + 1)), ?_, ?_, ?_, ?_⟩
  · refine ExS.cons (ExS.assign (x := .int 1) (fun ix hN => EvS.ifexp (tv := false) (EvT.to (EvT.compare (EvS.item (by walk_at "n") (by walk_at "n") (.str _) (Op2.item_str (k := pre.length) (d := d) (by exact hidx) (by exact hx) (by omega))) (by walk_at "s") Op2.eq_str (by rfl)) (by simp [h92])) (fun h => by cases h) (fun _ => EvS.ifexp (tv := false) (EvT.to (EvT.compare (EvS.item (by walk_at "n") (by walk_at "n") (.str _) (Op2.item_str (k := pre.length) (d := d) (by exact hidx) (by exact hx) (by omega))) (by walk_at "s") Op2.eq_str (by rfl)) (by simp [h91])) (fun h => by cases h) (fun _ => EvS.cint))) (by walk_at "kd") (fun _ => rfl)) ?_
    refine ExS.cons (ExS.assignSwap (ys := ["inner", "last"]) (xs := [.str [], .str [d]]) (fun y hy => by simp at hy; rcases hy with rfl | rfl <;> walk_at "kd") (by rfl) (fun ix hN => EvS.tuple (EvL.cons (by rfl) (rep2 (fun _ => rfl) (by rfl) (by rfl) (EvS.to (EvS.slice_str (by walk_at "n") (EvO.some (EvS.binop (by walk_at "n") EvS.cint Op2.add_int)) (EvO.some (EvS.binop (EvS.binop (by walk_at "n") (by walk_at "n") Op2.add_int) EvS.cint Op2.sub_int))) (by exact congrArg V.str (by unfold cut; rw [show (some ((pre.length : Int) + 1 - 1)).elim (pre ++ d :: r).length (clipAt (pre ++ d :: r).length) = clipAt (pre ++ d :: r).length (pre.length : Int) from by show clipAt _ _ = _; congr 1; omega, show (some ((pre.length : Int) + 1)).elim 0 (clipAt (pre ++ d :: r).length) = clipAt (pre ++ d :: r).length ((pre.length + 1 : Nat) : Int) from rfl, clipAt_nat, clipAt_nat, show min pre.length (pre ++ d :: r).length - min (pre.length + 1) (pre ++ d :: r).length = 0 from by omega, List.take_zero]))) (by simp) (by simp)) (EvL.cons (by rfl)
      (EvS.item (by walk_at "n") (EvS.binop (EvS.binop (by walk_at "n") (by walk_at "n") Op2.add_int) EvS.cint Op2.sub_int) (.str _) (Op2.item_str (k := pre.length) (d := d) (by rw [show (pre.length : Int) + 1 - 1 = (pre.length : Int) from by omega]; exact hidx) (by exact hx) (by omega))) EvL.nil)) (by walk_at "sz")) (fun env => rfl) (fun env he => by cases env; cases he; kernel_rfl)) ?_
    by_cases hal : d ∈ metas
    · have e1 : (acc ++ [lastU metas d d]).map uV = acc.map uV ++ [.tup [.bool false, .str []]] := by rw [List.map_append]; unfold lastU; rw [if_pos hal]; rfl
      rw [e1]
      exact ExS.cons (ExS.ifs (t := false) (fun ix hN => (EvT.to (EvT.compare (EvS.item (by walk_at "n") (by walk_at "n") (.str _) (Op2.item_str (k := pre.length) (d := d) (by exact hidx) (by exact hx) (by omega))) (by walk_at "s") Op2.eq_str (by rfl)) (by simp [h91]))) (fun h => by cases h) (fun _ => ExS.one (ExS.ifs (t := true) (fun ix hN => EvT.to (EvT.compare (by walk_at "n") (EvS.ifexp (tv := true) (EvT.to (EvT.compare (by walk_at "n") EvS.cint Op2.eq_int (by rfl)) (by rfl)) (fun _ => (by walk_at "s")) (fun h => by cases h)) Op2.in_str (by rfl)) (by exact decide_eq_true hal)) (fun _ => (ExS.one (ExS.appendM (l := acc.map uV) (i := i) (x := .tup [.bool false, .str []]) (by walk_at "kd") (by walk_at "nm") (by walk_at "nm") (by rfl) (by walk_at "lk") (by exact hi) (by simpa using hl) (by rfl) (fun ix hN => EvS.tuple (EvL.cons (by rfl) EvS.cbool (EvL.cons (by rfl) (by walk_at "s") EvL.nil)) (by walk_at "sz"))))) (fun h => by cases h)))) (ExS.one (ExS.aug (by walk_at "kd") (by walk_at "nm") (by walk_at "lk") (fun ix hN => by walk_at "n") (fun ix hN => Op2.iadd_int)))
    · by_cases hq : d = 46
      · have e1 : (acc ++ [lastU metas d d]).map uV = acc.map uV ++ [.tup [.bool true, .str []]] := by rw [List.map_append]; unfold lastU; rw [if_neg hal, if_pos hq]; rfl
        rw [e1]
        exact ExS.cons (ExS.ifs (t := false) (fun ix hN => (EvT.to (EvT.compare (EvS.item (by walk_at "n") (by walk_at "n") (.str _) (Op2.item_str (k := pre.length) (d := d) (by exact hidx) (by exact hx) (by omega))) (by walk_at "s") Op2.eq_str (by rfl)) (by simp [h91]))) (fun h => by cases h) (fun _ => ExS.one (ExS.ifs (t := false) (fun ix hN => EvT.to (EvT.compare (by walk_at "n") (EvS.ifexp (tv := true) (EvT.to (EvT.compare (by walk_at "n") EvS.cint Op2.eq_int (by rfl)) (by rfl)) (fun _ => (by walk_at "s")) (fun h => by cases h)) Op2.in_str (by rfl)) (by exact decide_eq_false hal)) (fun h => by cases h) (fun _ => (ExS.one (ExS.appendM (l := acc.map uV) (i := i) (x := .tup [.bool true, .str []]) (by walk_at "kd") (by walk_at "nm") (by walk_at "nm") (by rfl) (by walk_at "lk") (by exact hi) (by simpa using hl) (by rfl) (fun ix hN => EvS.ifexp (tv := true) (EvT.to (EvT.compare (EvS.item (by walk_at "n") (by walk_at "n") (.str _) (Op2.item_str (k := pre.length) (d := d) (by exact hidx) (by exact hx) (by omega))) (by walk_at "s") Op2.eq_str (by rfl)) (by simp [hq])) (fun _ => EvS.tuple (EvL.cons (by rfl) EvS.cbool (EvL.cons (by rfl) (by walk_at "s") EvL.nil)) (by walk_at "sz")) (fun h => by cases h)))))))) (ExS.one (ExS.aug (by walk_at "kd") (by walk_at "nm") (by walk_at "lk") (fun ix hN => by walk_at "n") (fun ix hN => Op2.iadd_int)))
      · have e1 : (acc ++ [lastU metas d d]).map uV = acc.map uV ++ [.tup [.bool false, .str [d]]] := by rw [List.map_append]; unfold lastU; rw [if_neg hal, if_neg hq]; rfl
        rw [e1]
        exact ExS.cons (ExS.ifs (t := false) (fun ix hN => (EvT.to (EvT.compare (EvS.item (by walk_at "n") (by walk_at "n") (.str _) (Op2.item_str (k := pre.length) (d := d) (by exact hidx) (by exact hx) (by omega))) (by walk_at "s") Op2.eq_str (by rfl)) (by simp [h91]))) (fun h => by cases h) (fun _ => ExS.one (ExS.ifs (t := false) (fun ix hN => EvT.to (EvT.compare (by walk_at "n") (EvS.ifexp (tv := true) (EvT.to (EvT.compare (by walk_at "n") EvS.cint Op2.eq_int (by rfl)) (by rfl)) (fun _ => (by walk_at "s")) (fun h => by cases h)) Op2.in_str (by rfl)) (by exact decide_eq_false hal)) (fun h => by cases h) (fun _ => (ExS.one (ExS.appendM (l := acc.map uV) (i := i) (x := .tup [.bool false, .str [d]]) (by walk_at "kd") (by walk_at "nm") (by walk_at "nm") (by rfl) (by walk_at "lk") (by exact hi) (by simpa using hl) (by rfl) (fun ix hN => EvS.ifexp (tv := false) (EvT.to (EvT.compare (EvS.item (by walk_at "n") (by walk_at "n") (.str _) (Op2.item_str (k := pre.length) (d := d) (by exact hidx) (by exact hx) (by omega))) (by walk_at "s") Op2.eq_str (by rfl)) (by simp [hq])) (fun h => by cases h) (fun _ => EvS.tuple (EvL.cons (by rfl) EvS.cbool (EvL.cons (by rfl) (by walk_at "n") EvL.nil)) (by walk_at "sz"))))))))) (ExS.one (ExS.aug (by walk_at "kd") (by walk_at "nm") (by walk_at "lk") (fun ix hN => by walk_at "n") (fun ix hN => Op2.iadd_int)))
  · walk_at "lk"
  · show upd _ _ _ _ = _
    rw [upd_self]; simp
  · walk_at "lk"
theorem un_cls (W : Wd c) (m : Loc) (mu : MU) (i : Nat) (acc : List U) (pre r t G : List Nat) (g : Nat) (hG : G = pre ++ (91 :: g :: t) ++ 93 :: r) (h93 : 93 ∉ g :: t) (h92 : 92 ∉ g :: t) (hm1 : m "group" = some (.str G)) (hm2 : m "k" = some (.int (pre.length : Int))) (hm3 : m "units" = some (.ml i)) (hi : mu i = some (.list (acc.map uV)))
    (hl : acc.length + 1 ≤ sizeLine) (hk : G.length ≤ 100000) :
    ∃ m', ExS c b n s21 (execs (inFor b21 2)) ⟨m, mu, N⟩ .next ⟨m', updM mu i (.list ((acc ++ [(if g = 94 then (true, t) else (false, g :: t) : U)]).map uV)), N⟩ ∧ m' "group" = some (.str G) ∧ m' "k" = some (.int ((pre.length + t.length + 3 : Nat) : Int)) ∧ m' "units" = some (.ml i) := by
  have hlen : G.length = pre.length + t.length + 3 + r.length := by rw [hG]; simp; omega
  have hx : G[pre.length]? = some 91 := by rw [hG, List.append_assoc]; simp
  have hidx : seqIndex? (pre.length : Int) G.length = some pre.length := seqIdx_nat (by omega)
  have hf : find3V G [93] (pre.length : Int) = ((pre.length + t.length + 2 : Nat) : Int) := by
    rw [hG, find3_one (by simp at h93 ⊢; exact h93)]
    simp; omega
  have hy : G[pre.length + t.length + 2]? = some 93 := by
    rw [hG, List.getElem?_append_right (by simp; omega), show pre.length + t.length + 2 - (pre ++ 91 :: g :: t).length = 0 from by simp; omega]; rfl
  have hidy : seqIndex? ((pre.length + t.length + 2 : Nat) : Int) G.length = some (pre.length + t.length + 2) := seqIdx_nat (by omega)
  have hcut : cut G (some ((pre.length : Int) + 1)) (some ((pre.length : Int) + ((t.length : Int) + 3) - 1)) = g :: t := by
    rw [cut_nat G (pre.length + 1) (pre.length + t.length + 2) (by omega) (by omega) (by omega), hG, List.append_assoc, List.drop_append, List.drop_eq_nil_of_le (by omega)]
    rw [show pre.length + 1 - pre.length = 1 from by omega, show pre.length + t.length + 2 - (pre.length + 1) = (g :: t).length from by simp; omega]
    show ((g :: t) ++ 93 :: r).take (g :: t).length = _
    exact List.take_left' rfl
  refine ⟨upd (upd (upd (upd m "size" (.int ((t.length : Int) + 3))) "last" (.str [93])) "inner" (.str (g :: t))) "k" (.int ((pre.length : Int) + ((t.length : Int) + 3))), ?_, ?_, ?_, ?_⟩
  · refine ExS.cons (ExS.assign (x := .int ((t.length : Int) + 3)) (fun ix hN => EvS.ifexp (tv := false) (EvT.to (EvT.compare (EvS.item (by walk_at "n") (by walk_at "n") (.str _) (Op2.item_str (k := pre.length) (d := 91) (by exact hidx) (by exact hx) (by omega))) (by walk_at "s") Op2.eq_str (by rfl)) (by rfl)) (fun h => by cases h) (fun _ => EvS.ifexp (tv := true) (EvT.to (EvT.compare (EvS.item (by walk_at "n") (by walk_at "n") (.str _) (Op2.item_str (k := pre.length) (d := 91) (by exact hidx) (by exact hx) (by omega))) (by walk_at "s") Op2.eq_str (by rfl)) (by rfl)) (fun _ => EvS.to (EvS.binop (EvS.binop
      (EvS.meth (T := "str") (id := "str.find") (a := .str G) (l := [.str [93], .int (pre.length : Int)]) (fun _ => rfl) (by decide) (by rfl) PySem.F.plainAttrs_str PySem.F.slot_str_find PySem.F.type_str_find str_TypeIs (by walk_at "n") (by rfl) (EvL.cons (by rfl) (by walk_at "s") (EvL.cons (by rfl) (by walk_at "n") EvL.nil)) OpN.find3) EvS.cint Op2.add_int) (by walk_at "n") Op2.sub_int) (by rw [hf]; congr 1; omega)) (fun h => by cases h))) (by walk_at "kd") (fun _ => rfl)) ?_
    refine ExS.cons (ExS.assignSwap (ys := ["inner", "last"]) (xs := [.str (g :: t), .str [93]]) (fun y hy => by simp at hy; rcases hy with rfl | rfl <;> walk_at "kd") (by rfl) (fun ix hN => EvS.tuple (EvL.cons (by rfl) (rep2 (fun _ => rfl) (by rfl) (by rfl) (EvS.to (EvS.slice_str (by walk_at "n") (EvO.some (EvS.binop (by walk_at "n") EvS.cint Op2.add_int)) (EvO.some (EvS.binop (EvS.binop (by walk_at "n") (by walk_at "n") Op2.add_int) EvS.cint Op2.sub_int))) (by rw [hcut])) h92 (by simp; omega)) (EvL.cons (by rfl)
      (EvS.item (by walk_at "n") (EvS.binop (EvS.binop (by walk_at "n") (by walk_at "n") Op2.add_int) EvS.cint Op2.sub_int) (.str _) (Op2.item_str (k := pre.length + t.length + 2) (d := 93) (by rw [show (pre.length : Int) + ((t.length : Int) + 3) - 1 = ((pre.length + t.length + 2 : Nat) : Int) from by omega]; exact hidy) (by exact hy) (by omega))) EvL.nil)) (by walk_at "sz")) (fun env => rfl) (fun env he => by cases env; cases he; kernel_rfl)) ?_
    by_cases hq : g = 94
    · have e1 : (acc ++ [(if g = 94 then (true, t) else (false, g :: t) : U)]).map uV = acc.map uV ++ [.tup [.bool true, .str t]] := by rw [List.map_append, if_pos hq]; rfl
      rw [e1]
      exact ExS.cons (ExS.ifs (t := true) (fun ix hN => EvT.to (EvT.compare (EvS.item (by walk_at "n") (by walk_at "n") (.str _) (Op2.item_str (k := pre.length) (d := 91) (by exact hidx) (by exact hx) (by omega))) (by walk_at "s") Op2.eq_str (by rfl)) (by rfl)) (fun _ => ExS.one (ExS.appendM (l := acc.map uV) (i := i) (x := .tup [.bool true, .str t]) (by walk_at "kd") (by walk_at "nm") (by walk_at "nm") (by rfl) (by walk_at "lk") (by exact hi) (by simpa using hl) (by rfl) (fun ix hN => EvS.tuple (EvL.cons (by rfl) (EvS.to (EvS.compare (EvS.item (by walk_at "n") EvS.cint (.str _) (Op2.item_str (k := 0) (d := g) (by exact seqIdx0 g t) (by rfl) (by decide))) (by walk_at "s") Op2.eq_str (by rfl)) (by simp [hq])) (EvL.cons (by rfl) (EvS.ifexp (tv := true) (EvT.to (EvT.compare (EvS.item (by walk_at "n") EvS.cint (.str _) (Op2.item_str (k := 0) (d := g) (by exact seqIdx0 g t) (by rfl) (by decide))) (by walk_at "s") Op2.eq_str (by rfl)) (by simp [hq])) (fun _ => EvS.to (EvS.slice_str (by walk_at "n") (EvO.some EvS.cint) EvO.none) (by rw [cut_from (i := 1) (g :: t) 1 rfl]; rfl)) (fun h => by cases h)) EvL.nil)) (by walk_at "sz")))) (fun h => by cases h)) (ExS.one (ExS.aug (by walk_at "kd") (by walk_at "nm") (by walk_at "lk") (fun ix hN => by walk_at "n") (fun ix hN => Op2.iadd_int)))
    · have e1 : (acc ++ [(if g = 94 then (true, t) else (false, g :: t) : U)]).map uV = acc.map uV ++ [.tup [.bool false, .str (g :: t)]] := by rw [List.map_append, if_neg hq]; rfl
      rw [e1]
      exact ExS.cons (ExS.ifs (t := true) (fun ix hN => EvT.to (EvT.compare (EvS.item (by walk_at "n") (by walk_at "n") (.str _) (Op2.item_str (k := pre.length) (d := 91) (by exact hidx) (by exact hx) (by omega))) (by walk_at "s") Op2.eq_str (by rfl)) (by rfl)) (fun _ => ExS.one (ExS.appendM (l := acc.map uV) (i := i) (x := .tup [.bool false, .str (g :: t)]) (by walk_at "kd") (by walk_at "nm") (by walk_at "nm") (by rfl) (by walk_at "lk") (by exact hi) (by simpa using hl) (by rfl) (fun ix hN => EvS.tuple (EvL.cons (by rfl) (EvS.to (EvS.compare (EvS.item (by walk_at "n") EvS.cint (.str _) (Op2.item_str (k := 0) (d := g) (by exact seqIdx0 g t) (by rfl) (by decide))) (by walk_at "s") Op2.eq_str (by rfl)) (by simp [hq])) (EvL.cons (by rfl) (EvS.ifexp (tv := false) (EvT.to (EvT.compare (EvS.item (by walk_at "n") EvS.cint (.str _) (Op2.item_str (k := 0) (d := g) (by exact seqIdx0 g t) (by rfl) (by decide))) (by walk_at "s") Op2.eq_str (by rfl)) (by simp [hq])) (fun h => by cases h) (fun _ => by walk_at "n")) EvL.nil)) (by walk_at "sz")))) (fun h => by cases h)) (ExS.one (ExS.aug (by walk_at "kd") (by walk_at "nm") (by walk_at "lk") (fun ix hN => by walk_at "n") (fun ix hN => Op2.iadd_int)))
  · walk_at "lk"
  · show upd _ _ _ _ = _
    rw [upd_self]; congr 2
  · walk_at "lk"
noncomputable abbrev t21 : PySem.Expr := whTest b21 2
theorem un_test (W : Wd c) (m : Loc) (mu : MU) (G : List Nat) (k : Nat) (x : Bool) (hm1 : m "group" = some (.str G)) (hm2 : m "k" = some (.int (k : Int))) (hx : decide ((k : Int) < (G.length : Int)) = x) : TvJ c b n s21 ⟨m, mu, N⟩ (fun env => isTrue t21 env (eval t21 env)) x := fun ix hN =>
  EvT.to (EvT.compare (by walk_at "n") (EvS.callf W.len (by kernel_rfl) (by walk_at "nm") (fun a => nofun) (by rfl) (EvL.cons (by rfl) (by walk_at "n") EvL.nil) OpN.len_str) Op2.lt_int (by rfl)) hx
theorem un_loop (W : Wd c) {rest : List Nat} {us : List U} (hp : Par rest us) : ∀ (pre : List Nat) (m : Loc) (mu : MU) (i : Nat) (acc : List U), m "group" = some (.str (pre ++ rest)) → m "k" = some (.int (pre.length : Int)) → m "units" = some (.ml i) → mu i = some (.list (acc.map uV)) →
    acc.length + us.length ≤ sizeLine → (pre ++ rest).length ≤ 100000 → ∃ k m' mu', Wh c b n s21 t21 (inFor b21 2) k ⟨m, mu, N⟩ .next ⟨m', mu', N⟩ ∧ m' "units" = some (.ml i) ∧ mu' i = some (.list ((acc ++ us).map uV)) := by
  induction hp with
  | nil =>
    intro pre m mu i acc h1 h2 h3 h4 h5 h6
    refine ⟨1, m, mu, .done (un_test W m mu _ pre.length false h1 h2 (by simp)), h3, by rw [List.append_nil]; exact h4⟩
  | @esc d r us hp ih =>
    intro pre m mu i acc h1 h2 h3 h4 h5 h6
    rw [List.length_cons] at h5
    obtain ⟨m1, e1, e2, e3, e4⟩ := un_esc (c := c) (b := b) (n := n) (N := N) W m mu i acc pre r d h1 h2 h3 h4 (by omega) h6
    obtain ⟨k, m', mu', w1, w2, w3⟩ := ih (pre ++ [92, d]) m1 (updM mu i (.list ((acc ++ [lastU alnum 92 d]).map uV))) i (acc ++ [lastU alnum 92 d]) (by rw [e2]; simp) e3 e4 (if_pos rfl) (by simp only [List.length_append, List.length_cons, List.length_nil]; omega) (by simpa using h6)
    exact ⟨k + 1, m', mu', .turn (un_test W m mu _ pre.length true h1 h2 (by simp; omega)) e1 w1, w2, by rw [w3, List.append_assoc]; rfl⟩
  | @one d r us h92 h91 hp ih =>
    intro pre m mu i acc h1 h2 h3 h4 h5 h6
    rw [List.length_cons] at h5
    obtain ⟨m1, e1, e2, e3, e4⟩ := un_one (c := c) (b := b) (n := n) (N := N) W m mu i acc pre r d h92 h91 h1 h2 h3 h4 (by omega) h6
    obtain ⟨k, m', mu', w1, w2, w3⟩ := ih (pre ++ [d]) m1 (updM mu i (.list ((acc ++ [lastU metas d d]).map uV))) i (acc ++ [lastU metas d d]) (by rw [e2]; simp) e3 e4 (if_pos rfl) (by simp only [List.length_append, List.length_cons, List.length_nil]; omega) (by simpa using h6)
    exact ⟨k + 1, m', mu', .turn (un_test W m mu _ pre.length true h1 h2 (by simp; omega)) e1 w1, w2, by rw [w3, List.append_assoc]; rfl⟩
  | @cls g t r us h93 h92 hp ih =>
    intro pre m mu i acc h1 h2 h3 h4 h5 h6
    rw [List.length_cons] at h5
    obtain ⟨m1, e1, e2, e3, e4⟩ := un_cls (c := c) (b := b) (n := n) (N := N) W m mu i acc pre r t _ g (by rw [List.append_assoc]) h93 h92 h1 h2 h3 h4 (by omega) h6
    obtain ⟨k, m', mu', w1, w2, w3⟩ := ih (pre ++ (91 :: g :: t ++ [93])) m1 (updM mu i (.list ((acc ++ [(if g = 94 then (true, t) else (false, g :: t) : U)]).map uV))) i (acc ++ [(if g = 94 then (true, t) else (false, g :: t) : U)]) (by rw [e2]; simp) (by rw [e3]; simp; omega) e4 (if_pos rfl) (by simp only [List.length_append, List.length_cons, List.length_nil]; omega) (by simpa using h6)
    exact ⟨k + 1, m', mu', .turn (un_test W m mu _ pre.length true h1 h2 (by simp; omega)) e1 w1, w2, by rw [w3, List.append_assoc]; rfl⟩
theorem units_ok (W : Wd c) {group : List Nat} {us : List U} (hp : Par group us) (h1 : us.length ≤ 100000) (h2 : group.length ≤ 100000) : FnS P1 c b n 21 ["group"] [.str group] (.lst (us.map uV)) N := by
  obtain ⟨k, m', mu', w1, w2, w3⟩ := un_loop (c := c) (b := b) (n := n) (N := N + 1) W hp [] (upd (upd (argm ["group"] [.str group] fun _ => none) "units" (.ml N)) "k" (.int 0)) (updM (fun _ => none) N (.list [])) N [] (by walk_at "lk") (by walk_at "lk") (by walk_at "lk") (if_pos rfl) (by rw [sizeLine_eq]; simp; omega) (by simpa using h2)
  refine ⟨.ml N, ⟨m', mu', N + 1⟩, ExS.cons (ExS.assignList (l := []) (fun ix hN => EvL.nil) (Nat.zero_le _) (by walk_at "kd")) (ExS.cons (ExS.assign (fun ix hN => EvS.cint) (by walk_at "kd") (fun _ => rfl)) (ExS.cons (ExS.whileR w1) (ExS.one (ExS.ret fun ix hN => by walk_at "n")))), ?_⟩
  refine .own w3 (by simp) fun k x y hx hy => ?_
  rw [List.nil_append, List.getElem?_map] at hx
  rw [List.getElem?_map] at hy
  rw [hx] at hy; cases hy
  rw [Option.map_eq_some_iff] at hx
  obtain ⟨u, _, rfl⟩ := hx
  refine .tup rfl fun k x y hx hy => ?_
  rw [hx] at hy; cases hy
  rcases k with _ | _ | k
  · cases hx; exact .bool _
  · cases hx; exact .str _
  · simp at hx

end Mine

end
section
open PySem PySem.Calls PySem.W PyProof.Rows
set_option Elab.async false
set_option autoImplicit false
set_option linter.unusedVariables false
set_option maxRecDepth 100000
namespace Mine
noncomputable abbrev b22 : List Stmt := bodyAt P1 22
noncomputable abbrev s22 : Scope := scopeAt P1 22
noncomputable abbrev g22 : List Stmt := inFor b22 5
noncomputable abbrev sepG : List Nat := [41, 40, 63, 62, 46, 42, 63]
variable {c : C} {b : Bool} {n N : Nat}
noncomputable def scanT (us : List U) (heard : List Nat) : Nat → Nat → Nat
  | 0, a => a
  | f + 1, a => if a + us.length ≤ heard.length ∧ mtL us ((heard.drop a).take us.length) = false then scanT us heard f (a + 1) else a
noncomputable def stepT (us : List U) (heard : List Nat) (a : Nat) : Nat := scanT us heard (heard.length + 1 - a) a + us.length
noncomputable def thr (us : List U) (heard : List Nat) : Nat → Nat → Nat
  | 0, a => a
  | k + 1, a => thr us heard k (stepT us heard a)
theorem th_while (W : Wd1 c) (us : List U) (hus : us.length ≤ 900) (heard : List Nat) (hh : heard.length ≤ 1000) (mu : MU) : ∀ (f a : Nat) (m : Loc), f = heard.length + 1 - a → a ≤ 1000000 → m "units" = some (.lst (us.map uV)) → m "heard" = some (.str heard) → m "at" = some (.int (a : Int)) →
    ∃ k m', Wh c b (n + 1) s22 (whTest g22 0) (inFor g22 0) k ⟨m, mu, N⟩ .next ⟨m', mu, N⟩ ∧ m' "at" = some (.int ((scanT us heard f a : Nat) : Int)) ∧ (∀ y : Str, y ≠ "at" → m' y = m y)
  | f, a, m, hf, ha, h1, h2, h3 => by
    have lenU : ∀ ix : IX, ∀ {pos fp p : Pos}, EvS c ⟨b, n + 1, s22, m, mu, ix⟩ (eval (.Call (.Name "len" fp) [.Name "units" p] [] pos)) (.int (us.length : Int)) := fun ix => EvS.to (EvS.callf W.w.len (by kernel_rfl) (by walk_at "nm") (fun a => nofun) (by rfl) (EvL.cons (by rfl) (by walk_at "n") EvL.nil) (OpN.len_list (l := us.map uV) (by rfl))) (by rw [List.length_map])
    have lenH : ∀ ix : IX, ∀ {pos fp p : Pos}, EvS c ⟨b, n + 1, s22, m, mu, ix⟩ (eval (.Call (.Name "len" fp) [.Name "heard" p] [] pos)) (.int (heard.length : Int)) := fun ix => EvS.callf W.w.len (by kernel_rfl) (by walk_at "nm") (fun a => nofun) (by rfl) (EvL.cons (by rfl) (by walk_at "n") EvL.nil) OpN.len_str
    by_cases hle : a + us.length ≤ heard.length
    · obtain ⟨f', rfl⟩ : ∃ f', f = f' + 1 := ⟨f - 1, by omega⟩
      have hcut : cut heard (some (a : Int)) (some ((a : Int) + (us.length : Int))) = (heard.drop a).take us.length := cut_span _ _ _ (by omega)
      have test : ∀ x, (!mtL us ((heard.drop a).take us.length)) = x → TvJ c b (n + 1) s22 ⟨m, mu, N⟩ (fun env => isTrue (whTest g22 0) env (eval (whTest g22 0) env)) x := fun x hx ix hN =>
        EvT.to (EvT.tbool (EvT.boolAnd (EvT.compare (EvS.binop (by walk_at "n") (lenU ix) Op2.add_int) (lenH ix) Op2.le_int (by rfl)) fun _ => EvT.boolAnd (EvT.tnot (EvT.plain (by rfl) (EvS.own (P := P1) (n' := n) W.g112 (by kernel_rfl) (by walk_at "nm") W.F112 (by rfl) (EvL.cons (by rfl) (by walk_at "n") (EvL.cons (by rfl) (EvS.to (EvS.slice_str (by walk_at "n") (EvO.some (by walk_at "n")) (EvO.some (EvS.binop (by walk_at "n") (lenU ix) Op2.add_int))) (by rw [hcut])) EvL.nil)) (by rfl) (by rfl) (fits_ok W.w us _ hus)) OpT.bool)) fun _ => EvT.boolNil)) (by rw [hx, decide_eq_true (by omega)]; simp)
      cases hm : mtL us ((heard.drop a).take us.length) with
      | true =>
        refine ⟨1, m, .done (test false (by rw [hm]; rfl)), ?_, fun _ _ => rfl⟩
        rw [h3]; unfold scanT; rw [if_neg (fun q => by rw [hm] at q; cases q.2)]
      | false =>
        obtain ⟨k, m', w1, w2, w3⟩ := th_while W us hus heard hh mu f' (a + 1) (upd m "at" (.int ((a + 1 : Nat) : Int))) (by omega) (by omega) (by walk_at "lk") (by walk_at "lk") (by walk_at "lk")
        refine ⟨k + 1, m', .turn (test true (by rw [hm]; rfl)) (ExS.one (ExS.aug (x := .int ((a + 1 : Nat) : Int)) (by walk_at "kd") (by walk_at "nm") (a := .int (a : Int)) (v := .int 1) (by walk_at "lk") (fun ix hN => EvS.cint) (fun ix hN => Op2.iadd_int))) w1, ?_, fun y hy => (w3 y hy).trans (upd_ne hy)⟩
        rw [w2]; conv => rhs; unfold scanT
        rw [if_pos ⟨hle, hm⟩]
    · refine ⟨1, m, .done (fun ix hN => ?_), ?_, fun _ _ => rfl⟩
      · exact EvT.to (EvT.tbool (EvT.boolAnd (r := false) (EvT.compare (EvS.binop (by walk_at "n") (lenU ix) Op2.add_int) (lenH ix) Op2.le_int (by rfl)) fun h => absurd (of_decide_eq_true h) (by omega))) (by simp)
      · rw [h3]
        cases f with
        | zero => rfl
        | succ f => unfold scanT; rw [if_neg (fun q => hle q.1)]
theorem scanT_le (us : List U) (heard : List Nat) : ∀ (f a : Nat), scanT us heard f a ≤ a + f
  | 0, a => Nat.le_refl _
  | f + 1, a => by
    unfold scanT
    split
    · have := scanT_le us heard f (a + 1); omega
    · omega
theorem th_loop (W : Wd1 c) (us : List U) (hus : us.length ≤ 900) (heard : List Nat) (hh : heard.length ≤ 1000) (mu : MU) (X : List Nat) : ∀ (k a : Nat) (m : Loc), a + k * 3000 ≤ 1000000 → m "units" = some (.lst (us.map uV)) → m "heard" = some (.str heard) → m "at" = some (.int (a : Int)) →
    ∃ m', Fo c b (n + 1) s22 "group" g22 ((List.replicate k X).map .str) ⟨m, mu, N⟩ .next ⟨m', mu, N⟩ ∧ m' "at" = some (.int ((thr us heard k a : Nat) : Int)) ∧ m' "heard" = some (.str heard)
  | 0, a, m, ha, h1, h2, h3 => ⟨m, .nil, h3, h2⟩
  | k + 1, a, m, ha, h1, h2, h3 => by
    obtain ⟨kk, m1, w1, w2, w3⟩ := th_while (c := c) (b := b) (n := n) (N := N) W us hus heard hh mu (heard.length + 1 - a) a (upd m "group" (.str X)) rfl (by omega) (by walk_at "lk") (by walk_at "lk") (by walk_at "lk")
    have hs := scanT_le us heard (heard.length + 1 - a) a
    have q1 : m1 "units" = some (.lst (us.map uV)) := (w3 _ (by simp [strEq])).trans (by walk_at "lk")
    have q2 : m1 "heard" = some (.str heard) := (w3 _ (by simp [strEq])).trans (by walk_at "lk")
    obtain ⟨m', f1, f2, f3⟩ := th_loop W us hus heard hh mu X k (stepT us heard a) (upd m1 "at" (.int ((stepT us heard a : Nat) : Int))) (by unfold stepT; omega) (by walk_at "lk") (by walk_at "lk") (by walk_at "lk")
    refine ⟨m', ?_, f2, f3⟩
    rw [List.replicate_succ, List.map_cons]
    refine .turn (ExS.cons (ExS.whileR w1) (ExS.one (ExS.aug (x := .int ((stepT us heard a : Nat) : Int)) (by walk_at "kd") (by walk_at "nm") (a := .int ((scanT us heard (heard.length + 1 - a) a : Nat) : Int)) (v := .int (us.length : Int)) (by walk_at "lk") (fun ix hN => EvS.to (EvS.callf W.w.len (by kernel_rfl) (by walk_at "nm") (fun a => nofun) (by rfl) (EvL.cons (by rfl) (by walk_at "n") EvL.nil) (OpN.len_list (l := us.map uV) (by rfl))) (by rw [List.length_map])) (fun ix hN => Op2.iadd_int)))) f1
theorem thru_ok (W : Wd1 c) (X : List Nat) (us : List U) (hp : Par X us) (hus : us.length ≤ 900) (hX : X.length ≤ 1000) (k : Nat) (hk : k ≤ 200) (M T heard : List Nat) (hh : heard.length ≤ 1000) (hM : splL sepG M = List.replicate (k + 1) X) (hMl : M.length ≤ 1000000) (hT : T = [40, 63, 115, 58, 40, 63, 62, 46, 42, 63] ++ M ++ [41, 46, 42, 41, 92, 90]) :
    FnS P1 c b (n + 1) 22 ["text", "k", "heard"] [.str T, .int ((k + 1 : Nat) : Int), .str heard] (.bool (decide (thr us heard (k + 1) 0 ≤ heard.length))) N := by
  have hTl : T.length = M.length + 16 := by rw [hT]; simp
  have hA : cut T none (some 10) = [40, 63, 115, 58, 40, 63, 62, 46, 42, 63] := by rw [show (10 : Int) = ((10 : Nat) : Int) from rfl, cut_to, hT]; rfl
  have hB : cut T (some (-6)) none = [41, 46, 42, 41, 92, 90] := by
    unfold cut
    show (T.drop (clipAt T.length (-((6 : Nat) : Int)))).take (T.length - clipAt T.length (-((6 : Nat) : Int))) = _
    rw [clip_neg _ 6 (by omega) (by decide), hTl, show M.length + 16 - 6 = ([40, 63, 115, 58, 40, 63, 62, 46, 42, 63] ++ M : List Nat).length from by simp, hT, List.drop_left' rfl, List.take_of_length_le (by simp)]
  have hD : cut T (some 10) (some (-6)) = M := by
    unfold cut
    show (T.drop (clipAt T.length ((10 : Nat) : Int))).take (clipAt T.length (-((6 : Nat) : Int)) - clipAt T.length ((10 : Nat) : Int)) = _
    rw [clip_neg _ 6 (by omega) (by decide), clipAt_nat, Nat.min_eq_left (by omega), hTl, show M.length + 16 - 6 - 10 = M.length from by omega, hT, List.append_assoc, show (10 : Nat) = ([40, 63, 115, 58, 40, 63, 62, 46, 42, 63] : List Nat).length from rfl, List.drop_left' rfl, List.take_left' rfl]
  have hG : splitV (cut T (some 10) (some (-6))) sepG = List.replicate (k + 1) X := by rw [hD, splitV_eq (by simp), hM]
  have hR : rep ((k + 1 : Nat) : Int) (cut ((List.replicate (k + 1) X).map V.str) none (some 1)) = (List.replicate (k + 1) X).map V.str := by
    rw [show (1 : Int) = ((1 : Nat) : Int) from rfl, cut_to]
    have e : ((List.replicate (k + 1) X).map V.str).take 1 = [V.str X] := by rw [List.replicate_succ]; rfl
    rw [e]
    unfold rep
    rw [Int.toNat_natCast]
    simp
  obtain ⟨m', f1, f2, f3⟩ := th_loop (c := c) (b := b) (n := n) (N := N) W us hus heard hh (fun _ => none) X (k + 1) 0 (upd (upd (upd (argm ["text", "k", "heard"] [.str T, .int ((k + 1 : Nat) : Int), .str heard] fun _ => none) "groups" (.lst ((List.replicate (k + 1) X).map .str))) "units" (.lst (us.map uV))) "at" (.int ((0 : Nat) : Int))) (by omega) (by walk_at "lk") (by walk_at "lk") (by walk_at "lk")
  refine ⟨.bool (decide (thr us heard (k + 1) 0 ≤ heard.length)), ⟨m', fun _ => none, N⟩, ?_, .bool _⟩
  refine ExS.cons (ExS.ifs (t := false) (fun ix hN => EvT.to (EvT.tbool (EvT.boolOr (EvT.compare (EvS.slice_str (by walk_at "n") EvO.none (EvO.some EvS.cint)) (by walk_at "s") Op2.ne_str (by rfl)) fun _ => EvT.boolOr (EvT.compare (EvS.slice_str (by walk_at "n") (EvO.some (EvS.unary EvS.cint Op1.neg_int)) EvO.none) (by walk_at "s") Op2.ne_str (by rfl)) fun _ => EvT.boolNil)) (by rw [hA, hB]; rfl)) (fun h => by cases h) (fun _ => ExS.nil)) ?_
  refine ExS.cons (ExS.assign (x := .lst ((List.replicate (k + 1) X).map .str)) (fun ix hN => EvS.to (EvS.meth (T := "str") (id := "str.split") (a := .str (cut T (some 10) (some (-6)))) (l := [.str sepG]) (fun _ => rfl) (by decide) (by rfl) PySem.F.plainAttrs_str PySem.F.slot_str_split PySem.F.type_str_split str_TypeIs (EvS.slice_str (by walk_at "n") (EvO.some EvS.cint) (EvO.some (EvS.unary EvS.cint Op1.neg_int))) (by rfl) (EvL.cons (by rfl) (by walk_at "s") EvL.nil) (OpN.split (by decide) (by rw [hD, sizeLine_eq]; omega))) (by rw [hG])) (by walk_at "kd") (fun _ => rfl)) ?_
  refine ExS.cons (ExS.ifs (t := false) (fun ix hN => EvT.to (EvT.compare (by walk_at "n") (EvS.to (EvS.binop (a := .lst (cut ((List.replicate (k + 1) X).map V.str) none (some 1))) (EvS.slice_list (a := .lst ((List.replicate (k + 1) X).map V.str)) (by walk_at "n") (by rfl) EvO.none (EvO.some EvS.cint)) (by walk_at "n") (Op2.mul_list (by rfl) (by omega) (by have := cut_length ((List.replicate (k + 1) X).map V.str) none (some 1); rw [Int.toNat_natCast, sizeLine_eq, show (1 : Int) = ((1 : Nat) : Int) from rfl, cut_to, List.length_take]; have h2 : min 1 ((List.replicate (k + 1) X).map V.str).length ≤ 1 := Nat.min_le_left _ _; exact Nat.le_trans (Nat.mul_le_mul_left _ h2) (by omega)) (by omega))) (by rw [hR])) (Op2.ne_strs (by rfl) (by rfl) (strsOf_map _) (strsOf_map _)) (by rfl)) (by simp)) (fun h => by cases h) (fun _ => ExS.nil)) ?_
  refine ExS.cons (ExS.assign (x := .lst (us.map uV)) (fun ix hN => EvS.own (P := P1) (n' := n) W.g126 (by kernel_rfl) (by walk_at "nm") W.F126 (by rfl) (EvL.cons (by rfl) (EvS.item (x := .str X) (a := .lst ((List.replicate (k + 1) X).map V.str)) (by walk_at "n") EvS.cint (.lst (l := (List.replicate (k + 1) X).map V.str) rfl) (Op2.item_list (l := (List.replicate (k + 1) X).map V.str) (k := 0) rfl (by rw [List.replicate_succ, List.map_cons]; exact seqIdx0 _ _) (by rw [List.replicate_succ]; rfl) (by decide))) EvL.nil) (by rfl) (by rfl) (units_ok W.w hp (by omega) (by omega))) (by walk_at "kd") (fun _ => rfl)) ?_
  refine ExS.cons (ExS.assign (x := .int ((0 : Nat) : Int)) (fun ix hN => EvS.cint) (by walk_at "kd") (fun _ => rfl)) ?_
  refine ExS.cons (ExS.forR (x := .lst ((List.replicate (k + 1) X).map .str)) (by walk_at "kd") (fun _ _ => rfl) (fun ix hN => by walk_at "n") (.lst _) f1) ?_
  refine ExS.one (ExS.ret fun ix hN => EvS.to (EvS.compare (by walk_at "n") (EvS.callf W.w.len (by kernel_rfl) (by walk_at "nm") (fun a => nofun) (by rfl) (EvL.cons (by rfl) (by walk_at "n") EvL.nil) OpN.len_str) Op2.le_int (by rfl)) ?_)
  congr 1
  rw [decide_eq_decide]; omega

end Mine

end
section
open PySem PySem.Calls PySem.W PyProof.Rows
set_option Elab.async false
set_option autoImplicit false
set_option linter.unusedVariables false
set_option maxRecDepth 100000
namespace Mine
noncomputable abbrev s23 : Scope := scopeAt P1 23
noncomputable abbrev b23 : List Stmt := bodyAt P1 23
noncomputable abbrev g23 : List Stmt := inFor b23 0
variable {c : C} {n N : Nat}
noncomputable def patK (piece : List Nat) (k : Nat) : List Nat := (List.replicate k ([42, 10] ++ piece)).flatten ++ [42]
theorem cn_loop (W : Wd1 c) (piece heard : List Nat) (due : Nat) (mu : MU) (hpc : piece.length ≤ 100) (hdue : due ≤ 100)
    (H : ∀ k, 1 ≤ k → k ≤ due + 1 → ∃ T, FnS P1 c false (n + 2) 9 ["pat"] [.str (fixE (patK piece k))] (.str T) N ∧ FnS P1 c false (n + 2) 22 ["text", "k", "heard"] [.str T, .int (k : Int), .str heard] (.bool (decide (k ≤ due))) N) : ∀ (f k : Nat) (m : Loc), 1 ≤ k → k + f ≤ due + 2 → m "piece" = some (.str piece) → m "heard" = some (.str heard) → m "due" = some (.int (due : Int)) →
    ∃ m', Fo c false (n + 3) s23 "k" g23 (nV (List.range' k f)) ⟨m, mu, N⟩ .next ⟨m', mu, N⟩
  | 0, k, m, hk, hf, h1, h2, h3 => ⟨m, .nil⟩
  | f + 1, k, m, hk, hf, h1, h2, h3 => by
    obtain ⟨T, t1, t2⟩ := H k hk (by omega)
    obtain ⟨m', f1⟩ := cn_loop W piece heard due mu hpc hdue H f (k + 1) (upd m "k" (.int (k : Int))) (by omega) (by omega) (by walk_at "lk") (by walk_at "lk") (by walk_at "lk")
    have hl : ((List.replicate k ([42, 10] ++ piece)).flatten).length = k * (2 + piece.length) := by
      rw [List.length_flatten, List.map_replicate, List.sum_replicate_nat, List.length_append]; rfl
    have hl2 : k * (2 + piece.length) ≤ 102 * 102 := Nat.mul_le_mul (by omega) (by omega)
    have hrep : rep (k : Int) ([42, 10] ++ piece) = (List.replicate k ([42, 10] ++ piece)).flatten := by unfold rep; rw [Int.toNat_natCast]
    have hpl : (patK piece k).length ≤ 20000 := by unfold patK; rw [List.length_append, hl, List.length_singleton]; omega
    refine ⟨m', .turn (ExS.one (ExS.ifs (t := false) (fun ix hN => ?_) (fun h => by cases h) (fun _ => ExS.nil))) f1⟩
    have hN' : ix.N = N := hN
    rw [← hN'] at t1 t2
    refine EvT.to (EvT.compare (EvS.own (P := P1) (n' := n + 2) W.g133 (by kernel_rfl) (by walk_at "nm") W.F133 (by rfl) (EvL.cons (by rfl) (EvS.own (P := P1) (n' := n + 2) W.w.f67 (by kernel_rfl) (by walk_at "nm") W.F67 (by rfl) (EvL.cons (by rfl) (EvS.own (P := P1) (n' := n + 2) (l := [.str (patK piece k)]) W.w.f55 (by kernel_rfl) (by walk_at "nm") W.F55 (by rfl) (EvL.cons (by rfl) (EvS.to (EvS.binop (EvS.to (EvS.binop (EvS.binop (EvS.const (l := [42, 10]) (by walk_at "cn") (by walk_at "sz")) (by walk_at "n") (Op2.add_str (by rw [List.length_append, sizeLine_eq]; simp; omega))) (by walk_at "n") (Op2.mul_str (by omega) (by rw [Int.toNat_natCast, sizeLine_eq, List.length_append]; show k * (2 + piece.length) ≤ _; omega) (by omega))) (by rw [hrep])) (EvS.const (l := [42]) (by walk_at "cn") (by walk_at "sz")) (Op2.add_str (by have h9 := hpl; unfold patK at h9; rw [sizeLine_eq]; omega))) (by rfl)) EvL.nil) (by rfl) (by rfl) (fix_ok W.w _ (by omega))) EvL.nil) (by rfl) (by rfl) t1) (EvL.cons (by rfl) (by walk_at "n") (EvL.cons (by rfl) (by walk_at "n") EvL.nil))) (by rfl) (by rfl) t2)
      (EvS.compare (by walk_at "n") (by walk_at "n") Op2.le_int (by rfl)) Op2.ne_bool (by rfl)) ?_
    have : decide ((k : Int) ≤ (due : Int)) = decide (k ≤ due) := by rw [decide_eq_decide]; omega
    rw [this]; simp
theorem counts_ok (W : Wd1 c) (piece heard : List Nat) (due : Nat) (hpc : piece.length ≤ 100) (hdue : due ≤ 100)
    (H : ∀ k, 1 ≤ k → k ≤ due + 1 → ∃ T, FnS P1 c false (n + 2) 9 ["pat"] [.str (fixE (patK piece k))] (.str T) N ∧ FnS P1 c false (n + 2) 22 ["text", "k", "heard"] [.str T, .int (k : Int), .str heard] (.bool (decide (k ≤ due))) N) :
    FnS P1 c false (n + 3) 23 ["piece", "heard", "due"] [.str piece, .str heard, .int (due : Int)] (.bool true) N := by
  obtain ⟨m', f1⟩ := cn_loop (c := c) (n := n) (N := N) W piece heard due (fun _ => none) hpc hdue H (due + 1) 1 (argm ["piece", "heard", "due"] [.str piece, .str heard, .int (due : Int)] fun _ => none) (Nat.le_refl _) (by omega) (by walk_at "lk") (by walk_at "lk") (by walk_at "lk")
  have it : Itr (.rng 1 ((due : Int) + 2) 1) (nV (List.range' 1 (due + 1))) := rng_from 1 (due + 2) (by omega) (by omega)
  refine ⟨.bool true, ⟨m', fun _ => none, N⟩, ExS.cons (ExS.forR (x := .rng 1 ((due : Int) + 2) 1) (by walk_at "kd") (fun _ _ => rfl) (fun ix hN => EvS.callf W.w.range (by kernel_rfl) (by walk_at "nm") (fun a => nofun) (by rfl) (EvL.cons (by rfl) EvS.cint (EvL.cons (by rfl) (EvS.binop (by walk_at "n") EvS.cint Op2.add_int) EvL.nil)) OpN.range2) it f1) (ExS.one (ExS.ret fun ix hN => EvS.cbool)), .bool _⟩

end Mine

end
section
open PySem PySem.Calls PySem.W PyProof.Rows
set_option Elab.async false
set_option autoImplicit false
set_option linter.unusedVariables false
set_option maxRecDepth 100000
namespace Mine
variable {us : List U}
noncomputable def Bf (us : List U) (l : List Nat) : Nat := (bests us l).getD 0 0
theorem bests_get (us : List U) : ∀ (l : List Nat) (i : Nat), i ≤ l.length → (bests us l).getD i 0 = Bf us (l.drop i)
  | l, 0, _ => rfl
  | [], i + 1, h => by simp at h
  | a :: l, i + 1, h => bests_get us l i (by simpa using h)
theorem Bf_cons (hm : 1 ≤ us.length) (a : Nat) (l : List Nat) : Bf us (a :: l) = max (Bf us l) (if mtL us ((a :: l).take us.length) = true then 1 + Bf us ((a :: l).drop us.length) else 0) := by
  show max (Bf us l) (here us (a :: l) (bests us l)) = _
  unfold here
  congr 1
  split
  · rename_i h
    have h1 := mtL_eq h
    rw [List.length_take, List.length_cons] at h1
    rw [bests_get us l _ (by omega)]
    obtain ⟨m, e⟩ : ∃ m, us.length = m + 1 := ⟨us.length - 1, by omega⟩
    rw [e]; rfl
  · rfl
theorem Bf_mono (a : Nat) (l : List Nat) : Bf us l ≤ Bf us (a :: l) := Nat.le_max_left _ _
theorem Bf_drop (l : List Nat) (i : Nat) : Bf us (l.drop (i + 1)) ≤ Bf us (l.drop i) := by
  rcases Nat.lt_or_ge i l.length with h | h
  · rw [List.drop_eq_getElem_cons h]; exact Bf_mono _ _
  · rw [List.drop_of_length_le h, List.drop_of_length_le (Nat.le_succ_of_le h)]; exact Nat.le_refl _
theorem Bf_one (hm : 1 ≤ us.length) : ∀ l : List Nat, Bf us l ≤ 1 + Bf us (l.drop us.length)
  | [] => Nat.zero_le _
  | a :: l => by
    rw [Bf_cons hm]
    have h1 := Bf_one hm l
    have h2 : Bf us (l.drop us.length) ≤ Bf us ((a :: l).drop us.length) := Bf_drop (us := us) (a :: l) us.length
    split
    · exact Nat.max_le.mpr ⟨by omega, Nat.le_refl _⟩
    · exact Nat.max_le.mpr ⟨by omega, Nat.zero_le _⟩
theorem Bf_yes (hm : 1 ≤ us.length) {l : List Nat} (h : mtL us (l.take us.length) = true) : Bf us l = 1 + Bf us (l.drop us.length) := by
  cases l with
  | nil =>
    have := mtL_eq h
    simp at this; omega
  | cons a l =>
    rw [Bf_cons hm, if_pos h]
    have h1 := Bf_one hm l
    have h2 : Bf us (l.drop us.length) ≤ Bf us ((a :: l).drop us.length) := Bf_drop (us := us) (a :: l) us.length
    exact Nat.max_eq_right (by omega)
theorem Bf_no (hm : 1 ≤ us.length) {a : Nat} {l : List Nat} (h : mtL us ((a :: l).take us.length) = false) : Bf us (a :: l) = Bf us l := by
  rw [Bf_cons hm, if_neg (by rw [h]; exact Bool.false_ne_true), Nat.max_eq_left (Nat.zero_le _)]
theorem Bf_short (hm : 1 ≤ us.length) : ∀ l : List Nat, l.length < us.length → Bf us l = 0
  | [], _ => rfl
  | a :: l, h => by
    rw [Bf_no hm, Bf_short hm l (by simp at h; omega)]
    cases q : mtL us ((a :: l).take us.length) with
    | false => rfl
    | true => have := mtL_eq q; rw [List.length_take] at this; omega
theorem scanT_ge (us : List U) (heard : List Nat) : ∀ (f a : Nat), a ≤ scanT us heard f a
  | 0, a => Nat.le_refl _
  | f + 1, a => by
    unfold scanT
    split
    · have := scanT_ge us heard f (a + 1); omega
    · exact Nat.le_refl _
theorem thr_ge (us : List U) (heard : List Nat) : ∀ (k a : Nat), a ≤ thr us heard k a
  | 0, a => Nat.le_refl _
  | k + 1, a => by
    have h1 := thr_ge us heard k (stepT us heard a)
    have h2 := scanT_ge us heard (heard.length + 1 - a) a
    have h3 : stepT us heard a = scanT us heard (heard.length + 1 - a) a + us.length := rfl
    show a ≤ thr us heard k (stepT us heard a)
    omega
theorem thr_iff (hm : 1 ≤ us.length) (heard : List Nat) : ∀ (k a : Nat), a ≤ heard.length → (thr us heard k a ≤ heard.length ↔ k ≤ Bf us (heard.drop a))
  | 0, a, h => ⟨fun _ => Nat.zero_le _, fun _ => h⟩
  | k + 1, a, h => by
    show thr us heard k (stepT us heard a) ≤ heard.length ↔ _
    have go : ∀ (d a : Nat), heard.length - a = d → a ≤ heard.length → (thr us heard k (stepT us heard a) ≤ heard.length ↔ k + 1 ≤ Bf us (heard.drop a)) := fun d => by
      induction d with
      | zero =>
        intro a hd ha
        have ha' : a = heard.length := by omega
        have hs : stepT us heard a = a + us.length := by
          unfold stepT; rw [show heard.length + 1 - a = 0 + 1 from by omega]
          unfold scanT; rw [if_neg (by omega)]
        have h1 := thr_ge us heard k (a + us.length)
        rw [hs, Bf_short hm _ (by rw [List.length_drop]; omega)]
        constructor
        · intro q; omega
        · intro q; omega
      | succ d ih =>
        intro a hd ha
        by_cases hle : a + us.length ≤ heard.length
        · cases hf : mtL us ((heard.drop a).take us.length) with
          | true =>
            have hs : stepT us heard a = a + us.length := by
              unfold stepT; rw [show heard.length + 1 - a = (heard.length - a) + 1 from by omega]
              unfold scanT; rw [if_neg (fun q => by rw [hf] at q; cases q.2)]
            rw [hs, thr_iff hm heard k (a + us.length) hle, Bf_yes hm hf, List.drop_drop]
            omega
          | false =>
            have hs : stepT us heard a = stepT us heard (a + 1) := by
              unfold stepT; rw [show heard.length + 1 - a = (heard.length + 1 - (a + 1)) + 1 from by omega]
              conv => lhs; unfold scanT
              rw [if_pos ⟨hle, hf⟩]
            rw [hs, ih (a + 1) (by omega) (by omega)]
            have e := List.drop_eq_getElem_cons (l := heard) (i := a) (by omega)
            rw [e] at hf
            conv => rhs; rw [e, Bf_no hm hf]
        · have hs : stepT us heard a = a + us.length := by
            unfold stepT; rw [show heard.length + 1 - a = (heard.length - a) + 1 from by omega]
            unfold scanT; rw [if_neg (fun q => hle q.1)]
          have h1 := thr_ge us heard k (a + us.length)
          rw [hs, Bf_short hm _ (by rw [List.length_drop]; omega)]
          constructor
          · intro q; omega
          · intro q; omega
    exact go _ a rfl h
theorem thru_due (hm : 1 ≤ us.length) (heard : List Nat) (k : Nat) : decide (thr us heard k 0 ≤ heard.length) = decide (k ≤ dueL us heard) := by
  rw [decide_eq_decide, thr_iff hm heard k 0 (Nat.zero_le _)]; rfl
/-! the rows and the text -/
theorem rows_join : ∀ (l : List Nat) (p : Bool) (cur : List Nat), joinL [13, 10] (rowsR l p cur) = cur ++ (if p = true ∧ l.head? = some 10 then fixE l.tail else fixE l)
  | [], p, cur => by simp [rowsR, joinL, fixE]
  | d :: l, p, cur => by
    have hne : ∀ (l : List Nat) (p : Bool) (cur : List Nat), rowsR l p cur ≠ [] := fun l => by
      induction l with
      | nil => intro p cur; simp [rowsR]
      | cons d l ih =>
        intro p cur
        show (if d ≠ 13 ∧ d ≠ 10 then rowsR l false (cur ++ [d]) else if d = 13 ∨ p = false then cur :: rowsR l (d == 13) [] else rowsR l (d == 13) cur) ≠ []
        split
        · exact ih _ _
        · split
          · simp
          · exact ih _ _
    have jc : ∀ (x : List Nat) (xs : List (List Nat)), xs ≠ [] → joinL [13, 10] (x :: xs) = x ++ ([13, 10] ++ joinL [13, 10] xs) := fun x xs h => by
      cases xs with
      | nil => exact absurd rfl h
      | cons y ys => show x ++ (([13, 10] ++ y) ++ _) = x ++ ([13, 10] ++ (y ++ _)); rw [List.append_assoc]
    by_cases hd : d ≠ 13 ∧ d ≠ 10
    · rw [show rowsR (d :: l) p cur = rowsR l false (cur ++ [d]) from if_pos hd, rows_join l false, if_neg (by simp), if_neg (by simp [hd.2])]
      have : isEol d = false := by unfold isEol; simp [hd.1, hd.2]
      rw [fixE_cons this]; simp
    · by_cases h13 : d = 13
      · subst h13
        rw [show rowsR (13 :: l) p cur = cur :: rowsR l true [] from (if_neg hd).trans (if_pos (.inl rfl)), jc _ _ (hne _ _ _), rows_join l true, if_neg (fun (q : p = true ∧ (13 :: l).head? = some 10) => by cases q.2)]
        cases l with
        | nil => simp [fixE, isEol]
        | cons x r =>
          by_cases hx : x = 10
          · subst hx
            rw [if_pos ⟨rfl, rfl⟩]
            show cur ++ ([13, 10] ++ ([] ++ fixE r)) = cur ++ (13 :: 10 :: fixE r)
            rfl
          · rw [if_neg (fun (q : true = true ∧ (x :: r).head? = some 10) => hx (by simpa using q.2))]
            have : fixE (13 :: x :: r) = 13 :: 10 :: fixE (x :: r) := by
              rw [fixE]
              · rfl
              · intro r' _ e; injection e with e _; exact hx e
            rw [this]; rfl
      · have h10 : d = 10 := by
          rcases Nat.decEq d 10 with q | q
          · exact absurd ⟨h13, q⟩ hd
          · exact q
        subst h10
        cases p with
        | true =>
          rw [show rowsR (10 :: l) true cur = rowsR l false cur from (if_neg hd).trans (if_neg (by simp)), rows_join l false, if_neg (by simp), if_pos ⟨rfl, rfl⟩]; rfl
        | false =>
          rw [show rowsR (10 :: l) false cur = cur :: rowsR l false [] from (if_neg hd).trans (if_pos (.inr rfl)), jc _ _ (hne _ _ _), rows_join l false, if_neg (by simp), if_neg (by simp)]
          have : fixE (10 :: l) = 13 :: 10 :: fixE l := by rw [fixE]; rfl; intro r' e; cases e
          rw [this]; simp
theorem rows_text (mail : List Nat) : signsL (rowsL mail) = 13 :: 10 :: fixE mail := by
  unfold signsL rowsL; rw [rows_join, if_neg (by simp)]; rfl

end Mine

end
section
open PySem PySem.Calls PySem.W PyProof.Rows
set_option Elab.async false
set_option autoImplicit false
set_option linter.unusedVariables false
set_option maxRecDepth 100000
namespace Mine
noncomputable def dotRow (row : List Nat) : List Nat := if row.take 1 = [46] then 46 :: row else row
noncomputable def isDotR (row : List Nat) : Bool := decide (row.take 1 = [46])
noncomputable def clean (r : List Nat) : Prop := 13 ∉ r ∧ 10 ∉ r
theorem rows_ne : ∀ (l : List Nat) (p : Bool) (cur : List Nat), rowsR l p cur ≠ []
  | [], p, cur => by simp [rowsR]
  | d :: l, p, cur => by
    show (if d ≠ 13 ∧ d ≠ 10 then rowsR l false (cur ++ [d]) else if d = 13 ∨ p = false then cur :: rowsR l (d == 13) [] else rowsR l (d == 13) cur) ≠ []
    split
    · exact rows_ne l _ _
    · split
      · simp
      · exact rows_ne l _ _
theorem rows_clean : ∀ (l : List Nat) (p : Bool) (cur : List Nat), clean cur → ∀ r ∈ rowsR l p cur, clean r
  | [], p, cur, hc, r, hr => by rw [List.mem_singleton.mp (show r ∈ [cur] from hr)]; exact hc
  | d :: l, p, cur, hc, r, hr => by
    have hr' : r ∈ (if d ≠ 13 ∧ d ≠ 10 then rowsR l false (cur ++ [d]) else if d = 13 ∨ p = false then cur :: rowsR l (d == 13) [] else rowsR l (d == 13) cur) := hr
    split at hr'
    · rename_i hd
      refine rows_clean l false (cur ++ [d]) ⟨?_, ?_⟩ r hr'
      · simp [hc.1]; exact fun e => hd.1 e.symm
      · simp [hc.2]; exact fun e => hd.2 e.symm
    · split at hr'
      · rcases List.mem_cons.mp hr' with rfl | q
        · exact hc
        · exact rows_clean l _ [] ⟨by simp, by simp⟩ r q
      · exact rows_clean l _ cur hc r hr'
theorem rows_count : ∀ (l : List Nat) (p : Bool) (cur : List Nat), (rowsR l p cur).length ≤ l.length + 1
  | [], p, cur => Nat.le_refl _
  | d :: l, p, cur => by
    show (if d ≠ 13 ∧ d ≠ 10 then rowsR l false (cur ++ [d]) else if d = 13 ∨ p = false then cur :: rowsR l (d == 13) [] else rowsR l (d == 13) cur).length ≤ _
    split
    · have := rows_count l false (cur ++ [d]); rw [List.length_cons]; omega
    · split
      · have := rows_count l (d == 13) []; rw [List.length_cons, List.length_cons]; omega
      · have := rows_count l (d == 13) cur; rw [List.length_cons]; omega
theorem jc (x : List Nat) {xs : List (List Nat)} (h : xs ≠ []) : joinL [13, 10] (x :: xs) = x ++ 13 :: 10 :: joinL [13, 10] xs := by
  cases xs with
  | nil => exact absurd rfl h
  | cons y ys => show x ++ (([13, 10] ++ y) ++ _) = _; simp [joinL]
theorem dot_row_f : ∀ (r Y : List Nat), clean r → dotAll false (r ++ Y) = r ++ dotAll false Y
  | [], Y, _ => rfl
  | a :: r, Y, h => by
    have ih := dot_row_f r Y ⟨fun q => h.1 (List.mem_cons_of_mem _ q), fun q => h.2 (List.mem_cons_of_mem _ q)⟩
    have ha : (a == 10) = false := by simpa using fun e : a = 10 => h.2 (by rw [e]; exact List.mem_cons_self ..)
    show (if false && a == 46 then _ else a :: dotAll (a == 10) (r ++ Y)) = _
    rw [Bool.false_and, if_neg Bool.false_ne_true, ha, ih]; rfl
theorem dot_row_t (r Y : List Nat) (h : clean r) (hY : Y = [] ∨ ∃ Y', Y = 13 :: Y') : dotAll true (r ++ Y) = dotRow r ++ dotAll false Y := by
  cases r with
  | nil =>
    rcases hY with rfl | ⟨Y', rfl⟩
    · rfl
    · rfl
  | cons a r =>
    have h' : clean r := ⟨fun q => h.1 (List.mem_cons_of_mem _ q), fun q => h.2 (List.mem_cons_of_mem _ q)⟩
    have ha : (a == 10) = false := by simpa using fun e : a = 10 => h.2 (by rw [e]; exact List.mem_cons_self ..)
    show (if true && a == 46 then 46 :: 46 :: dotAll false (r ++ Y) else a :: dotAll (a == 10) (r ++ Y)) = _
    rw [dot_row_f r Y h', ha, dot_row_f r Y h']
    unfold dotRow
    by_cases h46 : a = 46
    · subst h46; simp
    · simp [h46]
theorem dot_join : ∀ (rows : List (List Nat)), rows ≠ [] → (∀ r ∈ rows, clean r) → dotAll true (joinL [13, 10] rows) = joinL [13, 10] (rows.map dotRow)
  | [], h, _ => absurd rfl h
  | [r], _, hc => by
    have := dot_row_t r [] (hc r (List.mem_cons_self ..)) (.inl rfl)
    show dotAll true (r ++ []) = dotRow r ++ []
    rw [this]; rfl
  | r :: r2 :: rows, _, hc => by
    have ih := dot_join (r2 :: rows) (by simp) (fun x hx => hc x (List.mem_cons_of_mem _ hx))
    rw [jc r (by simp), dot_row_t r _ (hc r (List.mem_cons_self ..)) (.inr ⟨_, rfl⟩)]
    show dotRow r ++ 13 :: 10 :: dotAll true (joinL [13, 10] (r2 :: rows)) = joinL [13, 10] (dotRow r :: (r2 :: rows).map dotRow)
    rw [ih, jc (dotRow r) (by simp)]
theorem quote_text (mail : List Nat) : signsL ((rowsL mail).map dotRow) = 13 :: 10 :: dotAll true (fixE mail) := by
  have h1 := dot_join (rowsL mail) (rows_ne mail false []) (rows_clean mail false [] ⟨by simp, by simp⟩)
  have h2 := rows_text mail
  unfold signsL at h2 ⊢
  injection h2 with _ h2
  injection h2 with _ h2
  rw [← h1, h2]
noncomputable def nDot (rows : List (List Nat)) : Nat := (rows.filter isDotR).length
theorem dotRow_len (r : List Nat) : (dotRow r).length = r.length + if isDotR r = true then 1 else 0 := by
  unfold dotRow isDotR
  by_cases h : r.take 1 = [46]
  · rw [if_pos h, if_pos (decide_eq_true h)]; rfl
  · rw [if_neg h, if_neg (by rw [decide_eq_true_eq]; exact h)]; rfl
theorem nDot_cons (r : List Nat) (rows : List (List Nat)) : nDot (r :: rows) = (if isDotR r = true then 1 else 0) + nDot rows := by
  unfold nDot
  rw [List.filter_cons]
  split
  · rw [List.length_cons]; omega
  · omega
theorem join_len : ∀ (rows : List (List Nat)), (joinL [13, 10] (rows.map dotRow)).length = (joinL [13, 10] rows).length + nDot rows
  | [] => rfl
  | [r] => by
    show (dotRow r ++ []).length = (r ++ []).length + nDot [r]
    rw [List.append_nil, List.append_nil, dotRow_len, nDot_cons]; rfl
  | r :: r2 :: rows => by
    have ih := join_len (r2 :: rows)
    show (joinL [13, 10] (dotRow r :: (r2 :: rows).map dotRow)).length = _
    rw [jc (dotRow r) (by simp), jc r (by simp), nDot_cons, List.length_append, List.length_append, List.length_cons, List.length_cons, List.length_cons, List.length_cons, ih, dotRow_len]
    omega
/-! dots: the table of the items cr, lf, dot -/
noncomputable abbrev dotI : List U := [(false, [13]), (false, [10]), (false, [46])]
theorem dotI_m : 1 ≤ dotI.length := by decide
theorem Bf_13 {a : Nat} {l : List Nat} (h : a ≠ 13) : Bf dotI (a :: l) = Bf dotI l := by
  refine Bf_no dotI_m ?_
  show mtL dotI (a :: l.take 2) = false
  show (fits (false, [13]) a && _) = false
  have : fits (false, [13]) a = false := by
    show (!(decide (a ∈ [13]) == false)) = false
    simp [h]
  rw [this, Bool.false_and]
theorem Bf_row : ∀ (r Y : List Nat), clean r → Bf dotI (r ++ Y) = Bf dotI Y
  | [], Y, _ => rfl
  | a :: r, Y, h => by
    rw [List.cons_append, Bf_13 (fun e => h.1 (by rw [e]; exact List.mem_cons_self ..))]
    exact Bf_row r Y ⟨fun q => h.1 (List.mem_cons_of_mem _ q), fun q => h.2 (List.mem_cons_of_mem _ q)⟩
theorem Bf_crlf (r Y : List Nat) (h : clean r) (hY : Y = [] ∨ ∃ Y', Y = 13 :: Y') : Bf dotI (13 :: 10 :: (r ++ Y)) = (if isDotR r = true then 1 else 0) + Bf dotI Y := by
  have hno : ∀ {Z : List Nat}, Z.head? ≠ some 46 → Bf dotI (13 :: 10 :: Z) = Bf dotI Z := fun {Z} hz => by
    rw [Bf_no dotI_m, Bf_13 (by decide)]
    cases Z with
    | nil => rfl
    | cons z Z =>
      show mtL dotI [13, 10, z] = false
      have : fits (false, [46]) z = false := by
        show (!(decide (z ∈ [46]) == false)) = false
        have : z ≠ 46 := fun e => hz (by rw [e]; rfl)
        simp [this]
      show (true && (true && (fits (false, [46]) z && true))) = false
      rw [this]; rfl
  cases r with
  | nil =>
    have h0 : (if isDotR [] = true then 1 else 0) = 0 := rfl
    rw [h0, Nat.zero_add, List.nil_append]
    refine hno ?_
    rcases hY with rfl | ⟨Y', rfl⟩ <;> simp
  | cons a r =>
    by_cases ha : a = 46
    · subst ha
      have h1 : (if isDotR (46 :: r) = true then 1 else 0) = 1 := by
        rw [if_pos]; unfold isDotR; simp
      rw [h1, Bf_yes dotI_m (by rfl)]
      have := Bf_row r Y ⟨fun q => h.1 (List.mem_cons_of_mem _ q), fun q => h.2 (List.mem_cons_of_mem _ q)⟩
      show 1 + Bf dotI (r ++ Y) = _
      rw [this]
    · have h1 : (if isDotR (a :: r) = true then 1 else 0) = 0 := by
        rw [if_neg]; unfold isDotR; simp [ha]
      rw [h1, Nat.zero_add, hno (by simp [ha])]
      exact Bf_row (a :: r) Y h
theorem due_dots : ∀ (rows : List (List Nat)), rows ≠ [] → (∀ r ∈ rows, clean r) → Bf dotI (13 :: 10 :: joinL [13, 10] rows) = nDot rows
  | [], h, _ => absurd rfl h
  | [r], _, hc => by
    have := Bf_crlf r [] (hc r (List.mem_cons_self ..)) (.inl rfl)
    show Bf dotI (13 :: 10 :: (r ++ [])) = _
    rw [this, nDot_cons]; rfl
  | r :: r2 :: rows, _, hc => by
    have ih := due_dots (r2 :: rows) (by simp) (fun x hx => hc x (List.mem_cons_of_mem _ hx))
    rw [jc r (by simp), Bf_crlf r _ (hc r (List.mem_cons_self ..)) (.inr ⟨_, rfl⟩), ih, nDot_cons r]

end Mine

end
section
open PySem PySem.Calls PySem.W PyProof.Rows
set_option Elab.async false
set_option autoImplicit false
set_option linter.unusedVariables false
set_option maxRecDepth 100000
namespace Mine
noncomputable abbrev badD : List Nat := [42, 63, 91, 13, 10]
theorem fixE_step {c : Nat} {r : List Nat} (h : ¬ (c = 13 ∧ r.head? = some 10)) : fixE (c :: r) = (if isEol c then [13, 10] else [c]) ++ fixE r := by
  rw [fixE]
  · split <;> rfl
  · intro r' e1 e2
    subst e1 e2
    exact h ⟨rfl, rfl⟩
theorem bad_not {d : Nat} (h : d ∉ badD) : d ≠ 42 ∧ d ≠ 63 ∧ d ≠ 91 ∧ d ≠ 13 ∧ d ≠ 10 := by
  simpa using h
theorem eol_not {d : Nat} (h1 : d ≠ 13) (h2 : d ≠ 10) : isEol d = false := by unfold isEol; simp [h1, h2]
theorem fix_c1 (r : List Nat) : fixE (91 :: 33 :: 10 :: 93 :: r) = 91 :: 33 :: 13 :: 10 :: 93 :: fixE r := by
  rw [fixE_cons (by rfl), fixE_cons (by rfl), fixE_step (by simp), fixE_cons (by rfl)]; rfl
theorem fix_c2 (r : List Nat) : fixE (91 :: 33 :: 13 :: 46 :: 93 :: r) = 91 :: 33 :: 13 :: 10 :: 46 :: 93 :: fixE r := by
  rw [fixE_cons (by rfl), fixE_cons (by rfl), fixE_step (by simp), fixE_cons (by rfl), fixE_cons (by rfl)]; rfl
theorem fold_some {q : List Nat} : ∀ {as : List Pa} {acc : List (Option (List Nat))}, (∀ a ∈ as, ∃ t, paT q a = some t) → as.foldl (trStep q) acc = acc ++ (as.filterMap (paT q)).map some
  | [], acc, _ => by simp
  | a :: as, acc, h => by
    obtain ⟨t, e⟩ := h a (List.mem_cons_self ..)
    have e1 : trStep q acc a = acc ++ [some t] := by unfold trStep; rw [e]
    rw [List.foldl_cons, e1, fold_some (fun x hx => h x (List.mem_cons_of_mem _ hx)), List.filterMap_cons, e]
    simp
theorem jnP_snoc (gs : List (List (List Nat))) (g : List (List Nat)) : jnP (gs ++ [g]) = jnP gs ++ g.map some ++ [none] := by
  unfold jnP; simp
theorem jnP_last (gs : List (List (List Nat))) : (jnP gs).getLast? = some none := by
  rcases List.eq_nil_or_concat gs with rfl | ⟨gs', g, rfl⟩
  · rfl
  · rw [List.concat_eq_append, jnP_snoc]; simp
theorem star_step {q : List Nat} (gs : List (List (List Nat))) (g : List (List Nat)) : trStep q (jnP gs ++ g.map some) .star = jnP (if g = [] then gs else gs ++ [g]) := by
  show (if (jnP gs ++ g.map some).getLast? = some none then _ else _) = _
  by_cases h : g = []
  · subst h
    rw [List.map_nil, List.append_nil, if_pos (jnP_last gs), if_pos rfl]
  · rw [if_neg h, jnP_snoc, if_neg]
    obtain ⟨g', t, rfl⟩ : ∃ g' t, g = g' ++ [t] := by
      rcases List.eq_nil_or_concat g with e | ⟨g', t, e⟩
      · exact absurd e h
      · exact ⟨g', t, by rw [e, List.concat_eq_append]⟩
    simp
theorem preC_nil {l : List (List Nat)} (h : l ≠ []) : preC [] l = l := by
  cases l with
  | nil => exact absurd rfl h
  | cons x xs => rfl
theorem headC_pre (x : Nat) (t : List Nat) (l : List (List Nat)) : headC x (preC t l) = preC (x :: t) l := by
  cases l <;> rfl
theorem spl_safe {a0 a1 : Nat} {y' : List Nat} : ∀ {t r : List Nat}, (∀ x ∈ t.dropLast, x ≠ a0) → r.head? ≠ some a1 → splL (a0 :: a1 :: y') (t ++ r) = preC t (splL (a0 :: a1 :: y') r)
  | [], r, _, _ => (preC_nil (splL_ne _ _)).symm
  | x :: t, r, h1, h2 => by
    have hy : a0 :: a1 :: y' ≠ [] := by simp
    have hx : (a0 :: a1 :: y').isPrefixOf (x :: (t ++ r)) = false := by
      cases t with
      | nil =>
        cases r with
        | nil => simp [List.isPrefixOf]
        | cons z r' =>
          have : z ≠ a1 := fun e => h2 (by rw [e]; rfl)
          have : (a1 == z) = false := by simpa using fun e : a1 = z => this e.symm
          simp [List.isPrefixOf, this]
      | cons z t' =>
        have : x ≠ a0 := h1 x (by simp)
        have : (a0 == x) = false := by simpa using fun e : a0 = x => this e.symm
        simp [List.isPrefixOf, this]
    rw [List.cons_append, splL_cons hy hx, spl_safe (fun z hz => h1 z (by cases t with
      | nil => cases hz
      | cons w t' => exact List.mem_cons_of_mem _ hz)) h2, headC_pre]
theorem spl_here {y r : List Nat} (hy : y ≠ []) : splL y (y ++ r) = [] :: splL y r := by
  rw [splL_pre hy (by simp [List.isPrefixOf_iff_prefix])]; simp
theorem joinL_cons (z x : List Nat) {l : List (List Nat)} (h : l ≠ []) : joinL z (x :: l) = x ++ (z ++ joinL z l) := by
  cases l with
  | nil => exact absurd rfl h
  | cons y ys => show x ++ ((z ++ y) ++ _) = x ++ (z ++ (y ++ _)); rw [List.append_assoc]
noncomputable def Cln (a0 a1 : Nat) (t : List Nat) : Prop := t ≠ [] ∧ t.head? ≠ some a1 ∧ ∀ x ∈ t.dropLast, x ≠ a0
theorem head_flat {a1 : Nat} {ts : List (List Nat)} {rest : List Nat} (h : ∀ t ∈ ts, t ≠ [] ∧ t.head? ≠ some a1) (hr : rest.head? ≠ some a1) : (ts.flatten ++ rest).head? ≠ some a1 := by
  cases ts with
  | nil => exact hr
  | cons t ts =>
    obtain ⟨h1, h2⟩ := h t (List.mem_cons_self ..)
    cases t with
    | nil => exact absurd rfl h1
    | cons x t => exact h2
theorem spl_groups : ∀ {xs : List (List (List Nat))}, (∀ g ∈ xs, ∀ t ∈ g, Cln 41 40 t) → xs ≠ [] → splL sepG (joinL sepG (xs.map List.flatten)) = xs.map List.flatten := by
  have hs : sepG ≠ [] := by simp
  have atoms : ∀ {ts : List (List Nat)} {rest : List Nat}, rest.head? ≠ some 40 → (∀ t ∈ ts, Cln 41 40 t) → splL sepG (ts.flatten ++ rest) = preC ts.flatten (splL sepG rest) := fun {ts rest} hr h => by
    induction ts with
    | nil => exact (preC_nil (splL_ne _ _)).symm
    | cons t ts ih =>
      have hh : (ts.flatten ++ rest).head? ≠ some 40 := head_flat (fun x hx => ⟨(h x (List.mem_cons_of_mem _ hx)).1, (h x (List.mem_cons_of_mem _ hx)).2.1⟩) hr
      have := spl_safe (a0 := 41) (a1 := 40) (y' := sepG.drop 2) (h t (List.mem_cons_self ..)).2.2 hh
      rw [show (41 :: 40 :: sepG.drop 2) = sepG from rfl] at this
      rw [List.flatten_cons, List.append_assoc, this, ih (fun x hx => h x (List.mem_cons_of_mem _ hx))]
      cases e : splL sepG rest with
      | nil => exact absurd e (splL_ne _ _)
      | cons p ps => show _ :: ps = _ :: ps; rw [List.append_assoc]
  intro xs
  induction xs with
  | nil => intro _ h; exact absurd rfl h
  | cons g xs ih =>
    intro h _
    cases xs with
    | nil =>
      have := atoms (rest := []) (by simp) (h g (List.mem_cons_self ..))
      rw [List.append_nil, splL_nil hs] at this
      show splL sepG (g.flatten ++ []) = [g.flatten]
      rw [List.append_nil, this]
      show [g.flatten ++ []] = _
      rw [List.append_nil]
    | cons g2 xs =>
      show splL sepG (joinL sepG (g.flatten :: (g2 :: xs).map List.flatten)) = g.flatten :: (g2 :: xs).map List.flatten
      rw [joinL_cons sepG g.flatten (l := (g2 :: xs).map List.flatten) (by simp), atoms (by simp) (h g (List.mem_cons_self ..)), spl_here hs, ih (fun x hx => h x (List.mem_cons_of_mem _ hx)) (by simp)]
      show (g.flatten ++ []) :: _ = _
      rw [List.append_nil]
theorem esc_cln {d a0 a1 : Nat} (h0 : a0 ≠ 92) (h1 : a1 ∈ specials) (h2 : a1 ≠ 92) : Cln a0 a1 (escC d) := by
  unfold escC
  split
  · exact ⟨by simp, by simp; exact fun e => h2 e.symm, by simp; exact fun e => h0 e.symm⟩
  · rename_i h
    exact ⟨by simp, by simp; rintro rfl; exact h h1, by simp⟩
theorem cls_cln {s : List Nat} {a0 a1 : Nat} (h1 : a1 ≠ 91) (h2 : ∀ x ∈ clsT s, x ≠ a0) : Cln a0 a1 (clsT s) := ⟨by simp [clsT], by simp [clsT]; exact fun e => h1 e.symm, fun x hx => h2 x (List.dropLast_subset _ hx)⟩
theorem txt_mid (gs : List (List (List Nat))) (g : List (List Nat)) : jnT (g :: gs) = [40, 63, 115, 58, 40, 63, 62, 46, 42, 63] ++ joinL sepG ((g :: gs).map List.flatten) ++ [41, 46, 42, 41, 92, 90] := by
  have h : ∀ (gs : List (List (List Nat))), [41] ++ ((gs.map heldG).flatten ++ [46, 42]) = (gs.map fun x => sepG ++ x.flatten).flatten ++ [41, 46, 42] := fun gs => by
    induction gs with
    | nil => rfl
    | cons x gs ih =>
      rw [List.map_cons, List.map_cons, List.flatten_cons, List.flatten_cons, List.append_assoc (sepG ++ x.flatten), ← ih]
      simp [heldG]
  unfold jnT
  rw [List.map_cons, List.flatten_cons]
  show _ = _ ++ (g.flatten ++ ((gs.map List.flatten).map (sepG ++ ·)).flatten) ++ _
  have := h gs
  rw [List.map_map]
  have e : (gs.map ((fun x => sepG ++ x) ∘ List.flatten)) = gs.map fun x => sepG ++ x.flatten := rfl
  rw [e]
  have e2 : [40, 63, 115, 58] ++ (heldG g ++ (gs.map heldG).flatten ++ [46, 42]) ++ [41, 92, 90] = [40, 63, 115, 58, 40, 63, 62, 46, 42, 63] ++ (g.flatten ++ ([41] ++ ((gs.map heldG).flatten ++ [46, 42]))) ++ [41, 92, 90] := by simp [heldG]
  rw [e2, this]; simp
theorem sum_le {α : Type} {F : List α → List Nat} {K : Nat} : ∀ {gs : List (List α)}, (∀ g ∈ gs, (F g).length ≤ K * g.length) → (gs.map F).flatten.length ≤ K * gs.flatten.length
  | [], _ => Nat.zero_le _
  | g :: gs, h => by
    have h1 := h g (List.mem_cons_self ..)
    have h2 := sum_le (F := F) (K := K) (gs := gs) (fun x hx => h x (List.mem_cons_of_mem _ hx))
    rw [List.map_cons, List.flatten_cons, List.flatten_cons, List.length_append, List.length_append, Nat.mul_add]
    omega

end Mine

end
section
open PySem PySem.Calls PySem.W PyProof.Rows
set_option Elab.async false
set_option autoImplicit false
set_option linter.unusedVariables false
set_option maxRecDepth 100000
namespace Mine
inductive Pb where
  | dot
  | any
  | eol (e : List Nat)
  | k1
  | k2
  | k3
  | ch (d : Nat)
noncomputable def txB : Pb → List Nat
  | .dot => [46]
  | .any => [63]
  | .eol e => e
  | .k1 => [91, 13, 46, 97, 93]
  | .k2 => [91, 33, 10, 93]
  | .k3 => [91, 33, 13, 46, 93]
  | .ch d => [d]
noncomputable def itB : Pb → List U
  | .dot => [(false, [46])]
  | .any => [(true, [])]
  | .eol _ => [(false, [13]), (false, [10])]
  | .k1 => [(false, [13, 10, 46, 97])]
  | .k2 => [(true, [13, 10])]
  | .k3 => [(true, [13, 10, 46])]
  | .ch d => [(false, [d])]
noncomputable def paB : Pb → List Pa
  | .dot => [.ch 46]
  | .any => [.qm]
  | .eol _ => [.ch 13, .ch 10]
  | .k1 => [.cls [13, 10, 46, 97]]
  | .k2 => [.cls [33, 13, 10]]
  | .k3 => [.cls [33, 13, 10, 46]]
  | .ch d => [.ch d]
noncomputable def okB (e0 : List Nat) : Pb → Prop
  | .eol e => e = e0
  | .ch d => d ∉ badD
  | _ => True
noncomputable def okE (e0 : List Nat) : Prop := e0 = [10] ∨ e0 = [13] ∨ e0 = [13, 10]
noncomputable def txtB (ps : List Pb) : List Nat := (ps.map txB).flatten
theorem txL_app (a b : List Pa) : txL (a ++ b) = txL a ++ txL b := by unfold txL; rw [List.map_append, List.flatten_append]
theorem fix_k1 (r : List Nat) : fixE (91 :: 13 :: 46 :: 97 :: 93 :: r) = 91 :: 13 :: 10 :: 46 :: 97 :: 93 :: fixE r := by
  rw [fixE_cons (by rfl), fixE_step (by simp), fixE_cons (by rfl), fixE_cons (by rfl), fixE_cons (by rfl)]; rfl
theorem head_B {e0 : List Nat} (he : e0 = [13]) {p : Pb} (h : okB e0 p) : (txB p).head? ≠ some 10 ∧ txB p ≠ [] := by
  cases p with
  | eol e =>
    have : e = e0 := h
    subst this; subst he; exact ⟨by simp [txB], by simp [txB]⟩
  | ch d => exact ⟨by simp [txB]; exact (bad_not h).2.2.2.2, by simp [txB]⟩
  | _ => exact ⟨by simp [txB], by simp [txB]⟩
theorem fix_B {e0 : List Nat} (he : okE e0) (z : List Nat) (hz : z.head? ≠ some 10) : ∀ (ps : List Pb), (∀ p ∈ ps, okB e0 p) → fixE (txtB ps ++ z) = txL (ps.flatMap paB) ++ fixE z
  | [], _ => rfl
  | p :: ps, h => by
    have hr : ∀ x ∈ ps, okB e0 x := fun x hx => h x (List.mem_cons_of_mem _ hx)
    have ih := fix_B he z hz ps hr
    have hp := h p (List.mem_cons_self ..)
    have e1 : txtB (p :: ps) ++ z = txB p ++ (txtB ps ++ z) := by show (txB p ++ txtB ps) ++ z = _; rw [List.append_assoc]
    have e2 : txL ((p :: ps).flatMap paB) = txL (paB p) ++ txL (ps.flatMap paB) := by rw [List.flatMap_cons, txL_app]
    have hh : e0 = [13] → (txtB ps ++ z).head? ≠ some 10 := fun he => by
      cases ps with
      | nil => exact hz
      | cons q qs =>
        have := head_B he (hr q (List.mem_cons_self ..))
        show ((txB q ++ txtB qs) ++ z).head? ≠ some 10
        cases hq : txB q with
        | nil => exact absurd hq this.2
        | cons x xs => rw [hq] at this; exact this.1
    rw [e1, e2, List.append_assoc, ← ih]
    cases p with
    | dot => exact fixE_cons (by rfl)
    | any => exact fixE_cons (by rfl)
    | eol e =>
      have e' : e = e0 := hp
      subst e'
      rcases he with rfl | rfl | rfl
      · exact fixE_step (by simp)
      · exact fixE_step (fun q => hh rfl q.2)
      · rfl
    | k1 => exact fix_k1 _
    | k2 => exact fix_c1 _
    | k3 => exact fix_c2 _
    | ch d => obtain ⟨_, _, _, a1, a2⟩ := bad_not hp; exact fixE_cons (eol_not a1 a2)
theorem okA_B {e0 : List Nat} {p : Pb} (h : okB e0 p) : ∀ a ∈ paB p, okA a := by
  intro a ha
  cases p with
  | dot => rw [List.mem_singleton.mp ha]; exact ⟨by decide, by decide, by decide⟩
  | any => rw [List.mem_singleton.mp ha]; trivial
  | eol e =>
    have ha' : a ∈ [Pa.ch 13, Pa.ch 10] := ha
    simp at ha'
    rcases ha' with rfl | rfl <;> exact ⟨by decide, by decide, by decide⟩
  | k1 => rw [List.mem_singleton.mp ha]; exact ⟨by simp, by simp, by simp [tame]⟩
  | k2 => rw [List.mem_singleton.mp ha]; exact ⟨by simp, by simp, by simp [tame]⟩
  | k3 => rw [List.mem_singleton.mp ha]; exact ⟨by simp, by simp, by simp [tame]⟩
  | ch d => rw [List.mem_singleton.mp ha]; obtain ⟨a1, a2, a3, _⟩ := bad_not h; exact ⟨a1, a2, a3⟩
noncomputable def blkB (ps : List Pb) : List Pa := Pa.star :: (Pa.ch 13 :: Pa.ch 10 :: ps.flatMap paB)
noncomputable def patA (ps : List Pb) (k : Nat) : List Pa := (List.replicate k (blkB ps)).flatten ++ [Pa.star]
theorem patA_head (ps : List Pb) (k : Nat) : ∃ Y, patA ps k = Pa.star :: Y := by
  cases k with
  | zero => exact ⟨[], rfl⟩
  | succ k => exact ⟨_, by unfold patA; rw [List.replicate_succ, List.flatten_cons]; rfl⟩
theorem fix_pat {e0 : List Nat} (he : okE e0) (ps : List Pb) (h : ∀ p ∈ ps, okB e0 p) : ∀ k, fixE (patK (txtB ps) k) = txL (patA ps k)
  | 0 => by simp [patK, patA, txL, txA, fixE_cons, fixE, isEol]
  | k + 1 => by
    have ih := fix_pat he ps h k
    have e1 : patK (txtB ps) (k + 1) = 42 :: 10 :: (txtB ps ++ patK (txtB ps) k) := by unfold patK; rw [List.replicate_succ, List.flatten_cons]; simp
    have e2 : patA ps (k + 1) = blkB ps ++ patA ps k := by unfold patA; rw [List.replicate_succ, List.flatten_cons, List.append_assoc]
    have hz : (patK (txtB ps) k).head? ≠ some 10 := by
      cases k with
      | zero => simp [patK]
      | succ k => unfold patK; rw [List.replicate_succ, List.flatten_cons]; simp
    rw [e1, e2, txL_app, ← ih, fixE_cons (by rfl), fixE_step (by simp), fix_B he _ hz ps h]
    unfold blkB
    simp [txL, txA, isEol]
noncomputable def gB (ps : List Pb) : List (List Nat) := (Pa.ch 13 :: Pa.ch 10 :: ps.flatMap paB).filterMap (paT [46])
theorem paB_some {p : Pb} : ∀ a ∈ paB p, ∃ t, paT [46] a = some t := by
  intro a ha
  cases p with
  | eol e =>
    have ha' : a ∈ [Pa.ch 13, Pa.ch 10] := ha
    simp at ha'
    rcases ha' with rfl | rfl <;> exact ⟨_, rfl⟩
  | _ => exact (List.mem_singleton.mp ha) ▸ ⟨_, rfl⟩
theorem star_same (D : List (List (List Nat))) (g : List (List Nat)) (hg : g ≠ []) (Y : List Pa) : (Pa.star :: Y).foldl (trStep [46]) (jnP D ++ g.map some) = (Pa.star :: Y).foldl (trStep [46]) (jnP (D ++ [g])) := by
  rw [List.foldl_cons, List.foldl_cons, star_step, if_neg hg]
  have := star_step (q := [46]) (D ++ [g]) []
  rw [List.map_nil, List.append_nil, if_pos rfl] at this
  rw [this]
theorem gB_ne (ps : List Pb) : gB ps ≠ [] := by simp [gB, paT]
theorem tr_pat (ps : List Pb) : ∀ (k : Nat) (D : List (List (List Nat))), (patA ps k).foldl (trStep [46]) (jnP D) = jnP (D ++ List.replicate k (gB ps))
  | 0, D => by
    have := star_step (q := [46]) D []
    rw [List.map_nil, List.append_nil, if_pos rfl] at this
    show trStep [46] (jnP D) Pa.star = _
    rw [this]; simp
  | k + 1, D => by
    have e2 : patA ps (k + 1) = Pa.star :: ((Pa.ch 13 :: Pa.ch 10 :: ps.flatMap paB) ++ patA ps k) := by unfold patA blkB; rw [List.replicate_succ, List.flatten_cons, List.append_assoc]; rfl
    have h0 := star_step (q := [46]) D []
    rw [List.map_nil, List.append_nil, if_pos rfl] at h0
    rw [e2, List.foldl_cons, h0, List.foldl_append, fold_some (as := Pa.ch 13 :: Pa.ch 10 :: ps.flatMap paB) (acc := jnP D) (fun a ha => by
      rcases List.mem_cons.mp ha with rfl | ha
      · exact ⟨_, rfl⟩
      · rcases List.mem_cons.mp ha with rfl | ha
        · exact ⟨_, rfl⟩
        · obtain ⟨p, _, ha⟩ := List.mem_flatMap.mp ha; exact paB_some a ha)]
    obtain ⟨Y, e3⟩ := patA_head ps k
    have ih := tr_pat ps k (D ++ [gB ps])
    rw [e3] at ih ⊢
    show (Pa.star :: Y).foldl (trStep [46]) (jnP D ++ (gB ps).map some) = _
    rw [star_same D (gB ps) (gB_ne ps) Y, ih, List.append_assoc]
    rw [List.replicate_succ]; rfl
theorem trL_pat (ps : List Pb) (k : Nat) (hk : 1 ≤ k) : trL [46] (patA ps k) = jnP (List.replicate k (gB ps)) := by
  obtain ⟨Y, e3⟩ := patA_head ps k
  have h := tr_pat ps k []
  have h0 := star_step (q := [46]) [] []
  rw [List.map_nil, List.append_nil, if_pos rfl] at h0
  unfold trL
  rw [e3] at h ⊢
  rw [List.foldl_cons] at h ⊢
  rw [h0] at h
  have : trStep [46] [] Pa.star = jnP [] := rfl
  rw [this, h, List.nil_append]

end Mine

end
section
open PySem PySem.Calls PySem.W PyProof.Rows
set_option Elab.async false
set_option autoImplicit false
set_option linter.unusedVariables false
set_option maxRecDepth 100000
namespace Mine
theorem alnum_eq : alnum = [97, 98, 99, 100, 101, 102, 103, 104, 105, 106, 107, 108, 109, 110, 111, 112, 113, 114, 115, 116, 117, 118, 119, 120, 121, 122, 65, 66, 67, 68, 69, 70, 71, 72, 73, 74, 75, 76, 77, 78, 79, 80, 81, 82, 83, 84, 85, 86, 87, 88, 89, 90, 48, 49, 50, 51, 52, 53, 54, 55, 56, 57] := by unfold alnum; simp [strCps]
theorem esc_parB (d : Nat) : Par (escC d) [(false, [d])] := by
  unfold escC
  split
  · rename_i h
    have e : lastU alnum 92 d = (false, [d]) := by
      unfold lastU
      have hall : ∀ x ∈ specials, x ∉ alnum := by rw [alnum_eq]; decide
      rw [if_neg (hall d h), if_neg (by decide)]
    rw [← e]; exact .esc .nil
  · rename_i h
    have hne : ∀ x ∈ specials, d ≠ x := fun x hx e => h (e ▸ hx)
    have e : lastU metas d d = (false, [d]) := by
      unfold lastU
      have hall : ∀ x ∈ metas, x ∈ specials := by decide
      rw [if_neg (fun q => h (hall d q)), if_neg (hne 46 (by decide))]
    rw [← e]; exact .one (hne 92 (by decide)) (hne 91 (by decide)) .nil
theorem Par.app {a b : List Nat} {us vs : List U} (h : Par a us) (h2 : Par b vs) : Par (a ++ b) (us ++ vs) := by
  induction h with
  | nil => exact h2
  | esc _ ih => exact .esc ih
  | one h92 h91 _ ih => exact .one h92 h91 ih
  | @cls g t r us h93 h92 hp ih =>
    rw [List.append_assoc]
    exact .cls h93 h92 ih
theorem cls_parB {s : List Nat} {u : U} (g : Nat) (t : List Nat) (h : clsT s = 91 :: g :: t ++ [93]) (h93 : 93 ∉ g :: t) (h92 : 92 ∉ g :: t) (hu : u = if g = 94 then (true, t) else (false, g :: t)) : Par (clsT s) [u] := by
  rw [h, hu]; exact .cls h93 h92 .nil
noncomputable def atB (p : Pb) : List (List Nat) := (paB p).filterMap (paT [46])
theorem par_B (p : Pb) : Par (atB p).flatten (itB p) := by
  have one : ∀ {t : List Nat} {us : List U}, Par t us → Par [t].flatten us := fun {t us} h => by simpa using h
  cases p with
  | dot => exact one (esc_parB 46)
  | any => exact .one (d := 46) (by decide) (by decide) .nil
  | eol e => have := (esc_parB 13).app (esc_parB 10); exact this
  | k1 => exact one (cls_parB (s := [13, 10, 46, 97]) 13 [10, 46, 97] rfl (by decide) (by decide) rfl)
  | k2 => exact one (cls_parB (s := [33, 13, 10]) 94 [13, 10] rfl (by decide) (by decide) rfl)
  | k3 => exact one (cls_parB (s := [33, 13, 10, 46]) 94 [13, 10, 46] rfl (by decide) (by decide) rfl)
  | ch d => exact one (esc_parB d)
theorem cln_B (p : Pb) : ∀ t ∈ atB p, Cln 41 40 t := by
  intro t ht
  cases p with
  | dot => rw [List.mem_singleton.mp (show t ∈ [escC 46] from ht)]; exact esc_cln (by decide) (by decide) (by decide)
  | any => rw [List.mem_singleton.mp (show t ∈ [[46]] from ht)]; exact ⟨by simp, by simp, by simp⟩
  | eol e =>
    have ht' : t ∈ [escC 13, escC 10] := ht
    rcases List.mem_cons.mp ht' with rfl | q
    · exact esc_cln (by decide) (by decide) (by decide)
    · rw [List.mem_singleton.mp q]; exact esc_cln (by decide) (by decide) (by decide)
  | k1 => rw [List.mem_singleton.mp (show t ∈ [clsT [13, 10, 46, 97]] from ht)]; exact cls_cln (by decide) (by decide)
  | k2 => rw [List.mem_singleton.mp (show t ∈ [clsT [33, 13, 10]] from ht)]; exact cls_cln (by decide) (by decide)
  | k3 => rw [List.mem_singleton.mp (show t ∈ [clsT [33, 13, 10, 46]] from ht)]; exact cls_cln (by decide) (by decide)
  | ch d => rw [List.mem_singleton.mp (show t ∈ [escC d] from ht)]; exact esc_cln (by decide) (by decide) (by decide)
theorem gB_eq (ps : List Pb) : gB ps = atB (.eol [10]) ++ ps.flatMap atB := by
  unfold gB atB
  rw [show (Pa.ch 13 :: Pa.ch 10 :: ps.flatMap paB) = [Pa.ch 13, Pa.ch 10] ++ ps.flatMap paB from rfl, List.filterMap_append]
  congr 1
  induction ps with
  | nil => rfl
  | cons p ps ih => rw [List.flatMap_cons, List.flatMap_cons, List.filterMap_append, ih]
noncomputable def usB (ps : List Pb) : List U := (false, [13]) :: (false, [10]) :: ps.flatMap itB
theorem par_gB (ps : List Pb) : Par (gB ps).flatten (usB ps) := by
  rw [gB_eq, List.flatten_append]
  refine (par_B (.eol [10])).app ?_
  induction ps with
  | nil => exact .nil
  | cons p ps ih =>
    show Par ((atB p ++ ps.flatMap atB).flatten) (itB p ++ ps.flatMap itB)
    rw [List.flatten_append]; exact (par_B p).app ih
theorem cln_gB (ps : List Pb) : ∀ t ∈ gB ps, Cln 41 40 t := by
  rw [gB_eq]
  intro t ht
  rcases List.mem_append.mp ht with q | q
  · exact cln_B _ t q
  · obtain ⟨p, _, q⟩ := List.mem_flatMap.mp q; exact cln_B p t q
theorem esc_len (d : Nat) : (escC d).length ≤ 2 := by unfold escC; split <;> simp
theorem atB_len (p : Pb) : (atB p).flatten.length ≤ 8 := by
  cases p with
  | dot => decide
  | any => decide
  | eol e => show (escC 13 ++ (escC 10 ++ [])).length ≤ 8; decide
  | k1 => decide
  | k2 => decide
  | k3 => decide
  | ch d => show (escC d ++ []).length ≤ 8; rw [List.append_nil]; exact Nat.le_trans (esc_len d) (by decide)
theorem gB_len (ps : List Pb) : (gB ps).flatten.length ≤ 8 + 8 * ps.length := by
  rw [gB_eq, List.flatten_append, List.length_append]
  have h1 := atB_len (.eol [10])
  have h2 : (ps.flatMap atB).flatten.length ≤ 8 * ps.length := by
    induction ps with
    | nil => exact Nat.zero_le _
    | cons p ps ih => have := atB_len p; rw [List.flatMap_cons, List.flatten_append, List.length_append, List.length_cons]; omega
  omega
theorem itB_len (p : Pb) : (itB p).length ≤ 2 := by cases p <;> simp [itB]
theorem paB_len (p : Pb) : (paB p).length ≤ 2 := by cases p <;> simp [paB]
theorem usB_len (ps : List Pb) : 2 ≤ (usB ps).length ∧ (usB ps).length ≤ 2 + 2 * ps.length := by
  have h2 : (ps.flatMap itB).length ≤ 2 * ps.length := by
    induction ps with
    | nil => exact Nat.zero_le _
    | cons p ps ih => have := itB_len p; rw [List.flatMap_cons, List.length_append, List.length_cons]; omega
  unfold usB; rw [List.length_cons, List.length_cons]; omega
theorem gB_cnt (ps : List Pb) : (gB ps).length ≤ 2 + 2 * ps.length := by
  have h2 : (ps.flatMap paB).length ≤ 2 * ps.length := by
    induction ps with
    | nil => exact Nat.zero_le _
    | cons p ps ih => have := paB_len p; rw [List.flatMap_cons, List.length_append, List.length_cons]; omega
  unfold gB
  refine Nat.le_trans (List.length_filterMap_le _ _) ?_
  rw [List.length_cons, List.length_cons]; omega
theorem paF_len (ps : List Pb) : (ps.flatMap paB).length ≤ 2 * ps.length := by
  induction ps with
  | nil => exact Nat.zero_le _
  | cons p ps ih => have := paB_len p; rw [List.flatMap_cons, List.length_append, List.length_cons]; omega
theorem Bf_le {us : List U} (hm : 1 ≤ us.length) : ∀ (n : Nat) (l : List Nat), l.length ≤ n → Bf us l ≤ l.length
  | _, [], _ => Nat.zero_le _
  | 0, a :: l, h => by simp at h
  | n + 1, a :: l, h => by
    rw [List.length_cons] at h
    have h1 := Bf_le hm n l (by omega)
    have h2 := Bf_le hm n ((a :: l).drop us.length) (by rw [List.length_drop, List.length_cons]; omega)
    rw [List.length_drop, List.length_cons] at h2
    rw [Bf_cons hm, List.length_cons]
    split
    · exact Nat.max_le.mpr ⟨by omega, by omega⟩
    · exact Nat.max_le.mpr ⟨by omega, Nat.zero_le _⟩
variable {c : C} {n N : Nat}
theorem counts_B (W : Wd1 c) {e0 : List Nat} (he : okE e0) (ps : List Pb) (hok : ∀ p ∈ ps, okB e0 p) (hps : ps.length ≤ 18) (hpt : (txtB ps).length ≤ 100) (heard : List Nat) (hh : heard.length ≤ 100) :
    FnS P1 c false (n + 3) 23 ["piece", "heard", "due"] [.str (txtB ps), .str heard, .int ((dueL (usB ps) heard : Nat) : Int)] (.bool true) N := by
  have hu := usB_len ps
  have hdue : dueL (usB ps) heard ≤ 100 := Nat.le_trans (Bf_le (us := usB ps) (by omega) heard.length heard (Nat.le_refl _)) hh
  have hgl := gB_len ps
  have hgc := gB_cnt ps
  have hpl := paF_len ps
  refine counts_ok W (txtB ps) heard _ hpt hdue fun k hk1 hk2 => ⟨jnT (List.replicate k (gB ps)), ?_, ?_⟩
  · have hblk : (blkB ps).length ≤ 3 + 2 * ps.length := by unfold blkB; simp only [List.length_cons]; omega
    have hpa : (patA ps k).length ≤ 102 * 40 + 1 := by
      unfold patA
      rw [List.length_append, List.length_flatten, List.map_replicate, List.sum_replicate_nat, List.length_singleton]
      have := Nat.mul_le_mul (show k ≤ 102 from by omega) (show (blkB ps).length ≤ 40 from by omega)
      omega
    have hpk : (patK (txtB ps) k).length ≤ 102 * 102 + 1 := by
      unfold patK
      rw [List.length_append, List.length_flatten, List.map_replicate, List.sum_replicate_nat, List.length_singleton]
      have := Nat.mul_le_mul (show k ≤ 102 from by omega) (show ([42, 10] ++ txtB ps).length ≤ 102 from by rw [List.length_append]; simp; omega)
      omega
    have hfx := fixE_length (patK (txtB ps) k)
    rw [fix_pat he ps hok k] at hfx ⊢
    have hokA : ∀ a ∈ patA ps k, okA a := fun a ha => by
      rcases List.mem_append.mp (show a ∈ (List.replicate k (blkB ps)).flatten ++ [Pa.star] from ha) with q | q
      · obtain ⟨b, hb, q⟩ := List.mem_flatten.mp q
        rw [List.eq_of_mem_replicate hb] at q
        rcases List.mem_cons.mp (show a ∈ Pa.star :: (Pa.ch 13 :: Pa.ch 10 :: ps.flatMap paB) from q) with rfl | q
        · trivial
        · rcases List.mem_cons.mp q with rfl | q
          · exact ⟨by decide, by decide, by decide⟩
          · rcases List.mem_cons.mp q with rfl | q
            · exact ⟨by decide, by decide, by decide⟩
            · obtain ⟨p, hp, q⟩ := List.mem_flatMap.mp q; exact okA_B (hok p hp) a q
      · rw [List.mem_singleton.mp q]; trivial
    have hj : (jnP (List.replicate k (gB ps))).length ≤ 102 * 40 + 1 := by
      unfold jnP
      rw [List.length_cons, List.length_flatten, List.map_map, List.map_replicate, List.sum_replicate_nat]
      have := Nat.mul_le_mul (show k ≤ 102 from by omega) (show ((List.length ∘ fun g => g.map some ++ [none]) (gB ps)) ≤ 40 from by show ((gB ps).map some ++ [none]).length ≤ 40; rw [List.length_append, List.length_map, List.length_singleton]; omega)
      omega
    have hz : (((List.replicate k (gB ps)).map heldG).flatten).length ≤ 102 * 200 := by
      rw [List.map_replicate, List.length_flatten, List.map_replicate, List.sum_replicate_nat]
      exact Nat.mul_le_mul (by omega) (by rw [heldG_len]; omega)
    exact trans_ok W (patA ps k) (List.replicate k (gB ps)) (trL_pat ps k hk1) hokA (by omega) (by omega) (fun g hg => by rw [List.eq_of_mem_replicate hg]; exact ⟨gB_ne ps, by omega⟩) (by omega) (by rw [List.length_replicate]; omega) (by omega)
  · obtain ⟨k', rfl⟩ : ∃ k', k = k' + 1 := ⟨k - 1, by omega⟩
    have ht := thru_ok (c := c) (b := false) (n := n + 1) (N := N) W (gB ps).flatten (usB ps) (par_gB ps) (by omega) (by omega) k' (by omega) (joinL sepG ((List.replicate (k' + 1) (gB ps)).map List.flatten)) (jnT (List.replicate (k' + 1) (gB ps))) heard (by omega)
      (by rw [spl_groups (fun g hg t ht => by rw [List.eq_of_mem_replicate hg] at ht; exact cln_gB ps t ht) (by simp), List.map_replicate]) ?_ (by rw [List.replicate_succ]; exact txt_mid _ _)
    · rw [thru_due (us := usB ps) (by omega)] at ht
      exact ht
    · rw [List.map_replicate]
      have hJ : ∀ (k : Nat) (X : List Nat), (joinL sepG (List.replicate k X)).length ≤ k * (X.length + 7) := fun k X => by
        have h2 : ∀ k : Nat, (((List.replicate k X).map (sepG ++ ·)).flatten).length ≤ k * (X.length + 7) := fun k => by
          rw [List.map_replicate, List.length_flatten, List.map_replicate, List.sum_replicate_nat]
          exact Nat.mul_le_mul_left _ (by simp)
        cases k with
        | zero => exact Nat.zero_le _
        | succ k =>
          rw [List.replicate_succ]
          show (X ++ ((List.replicate k X).map (sepG ++ ·)).flatten).length ≤ _
          have := h2 k
          rw [List.length_append, Nat.add_mul, Nat.one_mul]; omega
      refine Nat.le_trans (hJ _ _) (Nat.le_trans (Nat.mul_le_mul (show k' + 1 ≤ 102 from by omega) (show (gB ps).flatten.length + 7 ≤ 200 from by omega)) (by decide))

end Mine

end
section
open PySem PySem.Calls PySem.W PyProof.Rows
set_option Elab.async false
set_option autoImplicit false
set_option linter.unusedVariables false
set_option maxRecDepth 100000
namespace Mine
noncomputable abbrev b17 : List Stmt := bodyAt P1 17
noncomputable abbrev s17 : Scope := scopeAt P1 17
noncomputable abbrev g17 : List Stmt := inFor b17 2
noncomputable abbrev i17 : List Stmt := inIf g17 5
variable {c : C} {b : Bool} {n N : Nat}
theorem pylong_nat (v : Nat) (d : Int) (hd : d = 80 ∨ d = 8 ∨ d = 64) : Builtin.divisionGoesByPylong (v : Int) d = false := by
  rcases hd with rfl | rfl | rfl <;> (unfold Builtin.divisionGoesByPylong; rw [Bool.and_eq_false_imp]; intro h; exact absurd h (by decide +kernel))
theorem val_nat (x : Int) : ∃ v : Nat, v < 100000000 ∧ x.fmod 100000000 = (v : Int) :=
  ⟨(x.fmod 100000000).toNat, by have := Int.fmod_eq_emod_of_nonneg x (b := 100000000) (by decide); omega, by have := Int.fmod_eq_emod_of_nonneg x (b := 100000000) (by decide); omega⟩
theorem fd_nat (v k : Nat) : (v : Int).fdiv (k : Int) = ((v / k : Nat) : Int) := by
  rw [Int.fdiv_eq_ediv_of_nonneg _ (by omega)]; rfl
theorem fm_nat (v k : Nat) : (v : Int).fmod (k : Int) = ((v % k : Nat) : Int) := by
  rw [Int.fmod_eq_emod_of_nonneg _ (by omega)]; rfl

theorem upd_upd (m : Loc) (y : Str) (a z : V) : upd (upd m y a) y z = upd m y z := by
  funext k; unfold upd; split <;> rfl
noncomputable def sgnB (d : Nat) : List (List Nat) := [[10], [13], [13, 10], [46], [], [97], [10, 46], [d]]
theorem sgnB_at (d : Nat) : ∀ k, k < 8 → ∃ s, (sgnB d)[k]? = some s ∧ s.length ≤ 2
  | 0, _ => ⟨_, rfl, by decide⟩
  | 1, _ => ⟨_, rfl, by decide⟩
  | 2, _ => ⟨_, rfl, by decide⟩
  | 3, _ => ⟨_, rfl, by decide⟩
  | 4, _ => ⟨_, rfl, by decide⟩
  | 5, _ => ⟨_, rfl, by decide⟩
  | 6, _ => ⟨_, rfl, by decide⟩
  | 7, _ => ⟨_, rfl, by simp⟩
  | k + 8, h => by omega
noncomputable def rowsB (e0 : List Nat) (d q : Nat) : List (List Pb) := [[], [.dot], List.replicate q .any, [.eol e0], [.k1], [.k2], [.k3], [.ch d]]
theorem txB_any (q : Nat) : txtB (List.replicate q .any) = List.replicate q 63 := by
  induction q with
  | zero => rfl
  | succ q ih => rw [List.replicate_succ, List.replicate_succ, ← ih]; rfl
theorem rowsB_at {e0 : List Nat} {d q : Nat} (he : okE e0) (hd : d ∉ badD) (hq : q ≤ 6) : ∀ k, k < 8 → ∃ ps, (rowsB e0 d q)[k]? = some ps ∧ ps.length ≤ 6 ∧ (∀ p ∈ ps, okB e0 p) ∧ (txtB ps).length ≤ 6
  | 0, _ => ⟨_, rfl, by decide, fun p hp => (by cases hp), by decide⟩
  | 1, _ => ⟨_, rfl, by simp, fun p hp => (by rw [List.mem_singleton.mp hp]; trivial), by decide⟩
  | 2, _ => ⟨_, rfl, by rw [List.length_replicate]; exact hq, fun p hp => (by rw [List.eq_of_mem_replicate hp]; trivial), by rw [txB_any, List.length_replicate]; exact hq⟩
  | 3, _ => ⟨_, rfl, by simp, fun p hp => (by rw [List.mem_singleton.mp hp]; exact rfl), by rcases he with rfl | rfl | rfl <;> decide⟩
  | 4, _ => ⟨_, rfl, by simp, fun p hp => (by rw [List.mem_singleton.mp hp]; trivial), by decide⟩
  | 5, _ => ⟨_, rfl, by simp, fun p hp => (by rw [List.mem_singleton.mp hp]; trivial), by decide⟩
  | 6, _ => ⟨_, rfl, by simp, fun p hp => (by rw [List.mem_singleton.mp hp]; trivial), by decide⟩
  | 7, _ => ⟨_, rfl, by simp, fun p hp => (by rw [List.mem_singleton.mp hp]; exact hd), by show ([d] ++ []).length ≤ 6; simp⟩
  | k + 8, h => by omega
noncomputable def tV (ps : List Pb) : V := .tup [.str (txtB ps), .lst ((ps.flatMap itB).map uV)]
theorem pl_h1 (W : Wd1 c) (m : Loc) (mu : MU) (x : Int) (v code d0 : Nat) (ev : x.fmod 100000000 = (v : Int)) (ecode : code = v / 64 % 1112064) (ed0 : d0 = if code < 55296 then code else code + 2048) (hd0 : d0 ≤ 1114111) (hx : m "x" = some (.int x)) :
    ∀ {f : Fl} {σ' : Sg}, ExS c b n s17 (execs (g17.drop 3)) ⟨upd (upd (upd m "value" (.int (v : Int))) "code" (.int (code : Int))) "sign" (.str [d0]), mu, N⟩ f σ' → ExS c b n s17 (execs g17) ⟨m, mu, N⟩ f σ' := fun hrest => by
  refine ExS.cons (ExS.assign (x := .int (v : Int)) (fun ix hN => EvS.to (EvS.binop (b := .int 100000000) (by walk_at "n") (EvS.to (EvS.binop EvS.cint EvS.cint (Op2.pow_int (by decide +kernel) (by decide +kernel) (by decide +kernel))) (by exact congrArg V.int (by decide +kernel))) (Op2.mod_int (by decide +kernel))) (by rw [ev])) (by walk_at "kd") (fun _ => rfl)) ?_
  refine ExS.cons (ExS.assign (x := .int (code : Int)) (fun ix hN => EvS.to (EvS.binop (EvS.binop (by walk_at "n") EvS.cint (Op2.div_int (by decide) (pylong_nat v 64 (.inr (.inr rfl))))) EvS.cint (Op2.mod_int (by decide +kernel))) (by rw [show (64 : Int) = ((64 : Nat) : Int) from rfl, fd_nat, show (1112064 : Int) = ((1112064 : Nat) : Int) from rfl, fm_nat, ← ecode])) (by walk_at "kd") (fun _ => rfl)) ?_
  refine ExS.cons (ExS.assign (x := .str [d0]) (fun ix hN => EvS.to (EvS.callf W.w.chr (by kernel_rfl) (by walk_at "nm") (fun a => nofun) (by rfl) (EvL.cons (by rfl) (EvS.ifexp (x := .int (d0 : Int)) (EvT.compare (by walk_at "n") EvS.cint Op2.lt_int (by rfl)) (fun h => EvS.to (x := .int (code : Int)) (by clear h; walk_at "n") ?_) (fun h => EvS.to (EvS.binop (a := .int (code : Int)) (by clear h; walk_at "n") EvS.cint Op2.add_int) ?_)) EvL.nil) (OpN.chr (i := (d0 : Int)) (by omega) (by omega))) (by rw [Int.toNat_natCast])) (by walk_at "kd") (fun _ => rfl)) hrest
  · rw [ed0, if_pos (by have := of_decide_eq_true h; omega)]
  · rw [ed0, if_neg (by have := of_decide_eq_false h; omega)]; rfl
theorem pl_h2 (W : Wd1 c) (m : Loc) (mu : MU) (d0 d1 : Nat) (ed1 : d1 = if d0 ∈ badD then 97 else d0) :
    ∀ {f : Fl} {σ' : Sg}, ExS c b n s17 (execs (g17.drop 4)) ⟨upd m "sign" (.str [d1]), mu, N⟩ f σ' → ExS c b n s17 (execs (g17.drop 3)) ⟨upd m "sign" (.str [d0]), mu, N⟩ f σ' := fun hrest => by
  have test : ∀ t, decide (d0 ∈ badD) = t → TvJ c b n s17 ⟨upd m "sign" (.str [d0]), mu, N⟩ (fun env => isTrue (match g17[3]? with | some (Stmt.If t _ _ _) => t | _ => PySem.Expr.Constant .none 0 default) env (eval (match g17[3]? with | some (Stmt.If t _ _ _) => t | _ => PySem.Expr.Constant .none 0 default) env)) t := fun t ht ix hN =>
    EvT.to (EvT.compare (by walk_at "n") (by walk_at "s") Op2.in_str (by rfl)) ht
  refine ExS.cons (σ₁ := ⟨upd m "sign" (.str [d1]), mu, N⟩) ?_ hrest
  by_cases hb : d0 ∈ badD
  · have e1 : d1 = 97 := ed1.trans (if_pos hb)
    exact ExS.ifs (t := true) (test true (decide_eq_true hb)) (fun _ => ExS.to (ExS.one (ExS.assign (x := .str [97]) (fun ix hN => by walk_at "s") (by walk_at "kd") (fun _ => rfl))) (by rw [e1]; exact congrArg (fun q => Sg.mk q mu N) (upd_upd _ _ _ _))) (fun h => by cases h)
  · have e1 : d1 = d0 := ed1.trans (if_neg hb)
    exact ExS.ifs (t := false) (test false (decide_eq_false hb)) (fun h => by cases h) (fun _ => ExS.to ExS.nil (by rw [e1]))
theorem pl_h3 (W : Wd1 c) (m : Loc) (mu : MU) (v d1 : Nat) (s mail : List Nat) (hs : (sgnB d1)[v % 8]? = some s) (hsl : s.length ≤ 2) (hl : mail.length ≤ 100) (h1 : m "value" = some (.int (v : Int))) (h2 : m "sign" = some (.str [d1])) (h3 : m "mail" = some (.str mail)) :
    ∀ {f : Fl} {σ' : Sg}, ExS c b n s17 (execs (g17.drop 5)) ⟨upd m "mail" (.str (mail ++ s)), mu, N⟩ f σ' → ExS c b n s17 (execs (g17.drop 4)) ⟨m, mu, N⟩ f σ' := fun hrest => by
  have hk : v % 8 < 8 := Nat.mod_lt _ (by decide)
  have hop : ∀ ix, Op2 c ⟨b, n, s17, m, mu, ix⟩ getItem (.lst [.str [10], .str [13], .str [13, 10], .str [46], .str [], .str [97], .str [10, 46], .str [d1]]) (.int ((v % 8 : Nat) : Int)) (.str s) := fun ix =>
    Op2.item_list (l := (sgnB d1).map V.str) (k := v % 8) rfl (seqIdx_nat hk) (by rw [List.getElem?_map, hs]; rfl) (by omega)
  clear hs
  have e8 : V.int ((v : Int).fmod 8) = V.int ((v % 8 : Nat) : Int) := by rw [show (8 : Int) = ((8 : Nat) : Int) from rfl, fm_nat]
  exact ExS.cons (ExS.aug (x := .str (mail ++ s)) (by walk_at "kd") (by walk_at "nm") (a := .str mail) (v := .str s) (by walk_at "lk") (fun ix hN => EvS.item (EvS.list (l := [.str [10], .str [13], .str [13, 10], .str [46], .str [], .str [97], .str [10, 46], .str [d1]]) (EvL.cons (by rfl) (by walk_at "s") (EvL.cons (by rfl) (by walk_at "s") (EvL.cons (by rfl) (by walk_at "s") (EvL.cons (by rfl) (by walk_at "s") (EvL.cons (by rfl) (by walk_at "s") (EvL.cons (by rfl) (by walk_at "s") (EvL.cons (by rfl) (by walk_at "s") (EvL.cons (by rfl) (by walk_at "n") EvL.nil)))))))) (by rw [sizeLine_eq]; exact of_decide_eq_true rfl)) (EvS.to (EvS.binop (by walk_at "n") EvS.cint (Op2.mod_int (by decide))) e8) (.lst (l := [.str [10], .str [13], .str [13, 10], .str [46], .str [], .str [97], .str [10, 46], .str [d1]]) rfl) (hop ix)) (fun ix hN => Op2.iadd_str (by rw [List.length_append, sizeLine_eq]; omega))) hrest
theorem rep_str (q : Nat) : V.str (rep ((q : Nat) : Int) [63]) = V.str (txtB (List.replicate q .any)) := by
  rw [txB_any]; congr 1; unfold rep
  rw [Int.toNat_natCast]
  induction q with
  | zero => rfl
  | succ q ih => rw [List.replicate_succ, List.replicate_succ, List.flatten_cons, ih]; rfl
theorem rep_lst (q : Nat) : V.lst (rep ((q : Nat) : Int) [uV (true, [])]) = V.lst (((List.replicate q Pb.any).flatMap itB).map uV) := by
  congr 1; unfold rep
  rw [Int.toNat_natCast]
  induction q with
  | zero => rfl
  | succ q ih => rw [List.replicate_succ, List.replicate_succ, List.flatten_cons, ih, List.flatMap_cons, List.map_append]; rfl
theorem pl_h4 (W : Wd1 c) (m : Loc) (mu : MU) (i v code d1 : Nat) (e0 piece : List Nat) (acc : List U) (he : okE e0) (hd : d1 ∉ badD) (hl : piece.length ≤ 100) (hla : acc.length ≤ 100) (h0 : m "end" = some (.str e0)) (hc : m "code" = some (.int (code : Int))) (h1 : m "value" = some (.int (v : Int))) (h2 : m "sign" = some (.str [d1])) (h3 : m "piece" = some (.str piece)) (h4 : m "items" = some (.ml i)) (h5 : mu i = some (.list (acc.map uV))) :
    ∃ ps m', (∀ p ∈ ps, okB e0 p) ∧ ps.length ≤ 6 ∧ (txtB ps).length ≤ 6 ∧ ExS c b n s17 (execs i17) ⟨m, mu, N⟩ .next ⟨m', updM mu i (.list ((acc ++ ps.flatMap itB).map uV)), N⟩ ∧ m' "piece" = some (.str (piece ++ txtB ps)) ∧ (∀ y : Str, y ≠ "table" → y ≠ "text" → y ≠ "more" → y ≠ "piece" → m' y = m y) := by
  obtain ⟨q, eq⟩ : ∃ q, q = 1 + code % 6 := ⟨_, rfl⟩
  have hq : q ≤ 6 := by omega
  obtain ⟨ps, hp, hp6, hok, ht6⟩ := rowsB_at (e0 := e0) (d := d1) (q := q) he hd hq (v / 8 % 8) (Nat.mod_lt _ (by decide))
  have hk : v / 8 % 8 < 8 := Nat.mod_lt _ (by decide)
  have hle : (ps.flatMap itB).length ≤ 12 := by have := usB_len ps; unfold usB at this; simp only [List.length_cons] at this; omega
  have hop : ∀ (m : Loc) ix, Op2 c ⟨b, n, s17, m, mu, ix⟩ getItem (.lst ((rowsB e0 d1 q).map tV)) (.int ((v / 8 % 8 : Nat) : Int)) (tV ps) := fun m ix =>
    Op2.item_list (l := (rowsB e0 d1 q).map tV) (k := v / 8 % 8) rfl (seqIdx_nat hk) (by rw [List.getElem?_map, hp]; rfl) (by omega)
  clear hp
  have e9 : V.int (((v : Int).fdiv 8).fmod 8) = V.int ((v / 8 % 8 : Nat) : Int) := by rw [show (8 : Int) = ((8 : Nat) : Int) from rfl, fd_nat, fm_nat]
  have eqq : V.int (1 + (code : Int).fmod 6) = V.int ((q : Nat) : Int) := by rw [show (6 : Int) = ((6 : Nat) : Int) from rfl, fm_nat, eq]; congr 1
  refine ⟨ps, upd (upd (upd (upd m "table" (.lst ((rowsB e0 d1 q).map tV))) "text" (.str (txtB ps))) "more" (.lst ((ps.flatMap itB).map uV))) "piece" (.str (piece ++ txtB ps)), hok, hp6, ht6, ?_, by walk_at "lk", fun y a1 a2 a3 a4 => by rw [upd_ne a4, upd_ne a3, upd_ne a2, upd_ne a1]⟩
  have tp : ∀ {j : J} {es : List PySem.Expr} {k : Nat} {pos : Pos} {ps : List Pb}, EvL c j (fun env => spliced (backTo pos (starEach es env))) [.str (txtB ps), .lst ((ps.flatMap itB).map uV)] → EvS c j (eval (.Tuple es k pos)) (tV ps) := fun h => EvS.tuple h (by walk_at "sz")
  have tq : ∀ {j : J} {es : List PySem.Expr} {k : Nat} {pos : Pos} {g : Bool} {t : List Nat}, EvL c j (fun env => spliced (backTo pos (starEach es env))) [.bool g, .str t] → EvS c j (eval (.Tuple es k pos)) (uV (g, t)) := fun h => EvS.tuple h (by walk_at "sz")
  have t1 : ∀ {j : J} {es : List PySem.Expr} {pos : Pos} {u : U}, EvL c j (fun env => spliced (backTo pos (starEach es env))) [uV u] → EvS c j (eval (.List es pos)) (.lst [uV u]) := fun h => EvS.list h (by walk_at "sz")
  have t2 : ∀ {j : J} {es : List PySem.Expr} {pos : Pos} {u w : U}, EvL c j (fun env => spliced (backTo pos (starEach es env))) [uV u, uV w] → EvS c j (eval (.List es pos)) (.lst [uV u, uV w]) := fun h => EvS.list h (by walk_at "sz")
  refine ExS.cons (ExS.assign (x := .lst ((rowsB e0 d1 q).map tV)) (fun ix hN => EvS.list (l := [tV [], tV [.dot], tV (List.replicate q .any), tV [.eol e0], tV [.k1], tV [.k2], tV [.k3], tV [.ch d1]]) (EvL.cons (by rfl) (tp (EvL.cons (by rfl) (by walk_at "s") (EvL.cons (by rfl) (EvS.list EvL.nil (Nat.zero_le _)) EvL.nil)))
    (EvL.cons (by rfl) (tp (EvL.cons (by rfl) (by walk_at "s") (EvL.cons (by rfl) (t1 (EvL.cons (by rfl) (tq (EvL.cons (by rfl) EvS.cbool (EvL.cons (by rfl) (by walk_at "s") EvL.nil))) EvL.nil)) EvL.nil)))
    (EvL.cons (by rfl) (tp (EvL.cons (by rfl) (EvS.to (EvS.binop (a := .str [63]) (b := .int (q : Int)) (by walk_at "s") (EvS.to (EvS.binop EvS.cint (EvS.binop (by walk_at "n") EvS.cint (Op2.mod_int (by decide))) Op2.add_int) eqq) (Op2.mul_str (by omega) (by rw [Int.toNat_natCast, sizeLine_eq]; simp; omega) (by omega))) (rep_str q)) (EvL.cons (by rfl) (EvS.to (EvS.binop (a := .lst [uV (true, [])]) (b := .int (q : Int)) (t1 (EvL.cons (by rfl) (tq (EvL.cons (by rfl) EvS.cbool (EvL.cons (by rfl) (by walk_at "s") EvL.nil))) EvL.nil)) (EvS.to (EvS.binop EvS.cint (EvS.binop (by walk_at "n") EvS.cint (Op2.mod_int (by decide))) Op2.add_int) eqq) (Op2.mul_list (by rfl) (by omega) (by rw [Int.toNat_natCast, sizeLine_eq]; simp; omega) (by omega))) (rep_lst q)) EvL.nil)))
    (EvL.cons (by rfl) (EvS.to (EvS.tuple (EvL.cons (by rfl) (x := .str e0) (by walk_at "n") (EvL.cons (by rfl) (t2 (u := (false, [13])) (w := (false, [10])) (EvL.cons (by rfl) (tq (EvL.cons (by rfl) EvS.cbool (EvL.cons (by rfl) (by walk_at "s") EvL.nil))) (EvL.cons (by rfl) (tq (EvL.cons (by rfl) EvS.cbool (EvL.cons (by rfl) (by walk_at "s") EvL.nil))) EvL.nil))) EvL.nil)) (by walk_at "sz")) (by show _ = V.tup [.str (e0 ++ []), _]; rw [List.append_nil]; rfl))
    (EvL.cons (by rfl) (tp (EvL.cons (by rfl) (by walk_at "s") (EvL.cons (by rfl) (t1 (EvL.cons (by rfl) (tq (EvL.cons (by rfl) EvS.cbool (EvL.cons (by rfl) (by walk_at "s") EvL.nil))) EvL.nil)) EvL.nil)))
    (EvL.cons (by rfl) (tp (EvL.cons (by rfl) (by walk_at "s") (EvL.cons (by rfl) (t1 (EvL.cons (by rfl) (tq (EvL.cons (by rfl) EvS.cbool (EvL.cons (by rfl) (by walk_at "s") EvL.nil))) EvL.nil)) EvL.nil)))
    (EvL.cons (by rfl) (tp (EvL.cons (by rfl) (by walk_at "s") (EvL.cons (by rfl) (t1 (EvL.cons (by rfl) (tq (EvL.cons (by rfl) EvS.cbool (EvL.cons (by rfl) (by walk_at "s") EvL.nil))) EvL.nil)) EvL.nil)))
    (EvL.cons (by rfl) (tp (EvL.cons (by rfl) (by walk_at "n") (EvL.cons (by rfl) (t1 (EvL.cons (by rfl) (tq (EvL.cons (by rfl) EvS.cbool (EvL.cons (by rfl) (by walk_at "n") EvL.nil))) EvL.nil)) EvL.nil))) EvL.nil)))))))) (by rw [sizeLine_eq]; exact of_decide_eq_true rfl)) (by walk_at "kd") (fun _ => rfl)) ?_
  refine ExS.cons (ExS.assignTup (ys := ["text", "more"]) (xs := [.str (txtB ps), .lst ((ps.flatMap itB).map uV)]) (by rfl) (fun y hy => by simp at hy; rcases hy with rfl | rfl <;> walk_at "kd") (by rfl) (fun ix hN => EvS.item (x := tV ps) (by walk_at "n") (EvS.to (EvS.binop (EvS.binop (by walk_at "n") EvS.cint (Op2.div_int (by decide) (pylong_nat v 8 (.inr (.inl rfl))))) EvS.cint (Op2.mod_int (by decide))) e9) (.lst (l := (rowsB e0 d1 q).map tV) rfl) (hop _ ix)) (fun env => rfl) (fun env => rfl)) ?_
  refine ExS.cons (ExS.aug (x := .str (piece ++ txtB ps)) (by walk_at "kd") (by walk_at "nm") (a := .str piece) (v := .str (txtB ps)) (by walk_at "lk") (fun ix hN => by walk_at "n") (fun ix hN => Op2.iadd_str (by rw [List.length_append, sizeLine_eq]; omega))) ?_
  rw [List.map_append]
  exact ExS.one (ExS.extendM (l := acc.map uV) (l2 := (ps.flatMap itB).map uV) (i := i) (by walk_at "kd") (by walk_at "nm") (by walk_at "nm") (by rfl) (by walk_at "lk") (by exact h5) (by rw [List.length_map, List.length_map]; omega) (by rfl) (fun ix hN => by walk_at "n"))

end Mine

end
section
open PySem PySem.Calls PySem.W PyProof.Rows
set_option Elab.async false
set_option autoImplicit false
set_option linter.unusedVariables false
set_option maxRecDepth 100000
namespace Mine
variable {c : C} {b : Bool} {n N : Nat}
theorem txtB_app (a d : List Pb) : txtB (a ++ d) = txtB a ++ txtB d := by unfold txtB; rw [List.map_append, List.flatten_append]
theorem pl_turn (W : Wd1 c) (m : Loc) (mu : MU) (i place : Nat) (x : Int) (e0 mail piece : List Nat) (acc : List U) (he : okE e0) (hl1 : mail.length ≤ 100) (hl2 : piece.length ≤ 90) (hl3 : acc.length ≤ 100) (h0 : m "end" = some (.str e0)) (h1 : m "mail" = some (.str mail)) (h3 : m "piece" = some (.str piece)) (h4 : m "items" = some (.ml i)) (h5 : mu i = some (.list (acc.map uV))) :
    ∃ (s : List Nat) (ps : List Pb) (m' : Loc) (mu' : MU), s.length ≤ 2 ∧ (∀ p ∈ ps, okB e0 p) ∧ (ps.length ≤ if place < 3 then 6 else 0) ∧ ((txtB ps).length ≤ if place < 3 then 6 else 0) ∧ ExS c b n s17 (execs g17) ⟨upd (upd m "place" (.int place)) "x" (.int x), mu, N⟩ .next ⟨m', mu', N⟩ ∧ m' "end" = some (.str e0) ∧ m' "mail" = some (.str (mail ++ s)) ∧ m' "piece" = some (.str (piece ++ txtB ps)) ∧ m' "items" = some (.ml i) ∧ mu' i = some (.list ((acc ++ ps.flatMap itB).map uV)) := by
  obtain ⟨v, hv, ev⟩ := val_nat x
  obtain ⟨code, ecode⟩ : ∃ code, code = v / 64 % 1112064 := ⟨_, rfl⟩
  have hcode : code < 1112064 := by rw [ecode]; exact Nat.mod_lt _ (by decide)
  obtain ⟨d0, ed0⟩ : ∃ d0, d0 = if code < 55296 then code else code + 2048 := ⟨_, rfl⟩
  have hd0 : d0 ≤ 1114111 := by rw [ed0]; split <;> omega
  obtain ⟨d1, ed1⟩ : ∃ d1, d1 = if d0 ∈ badD then 97 else d0 := ⟨_, rfl⟩
  have hd1 : d1 ∉ badD := by
    rw [ed1]; split
    · decide
    · assumption
  obtain ⟨s, hs, hsl⟩ := sgnB_at d1 (v % 8) (Nat.mod_lt _ (by decide))
  have st : ∀ {f : Fl} {σ' : Sg}, ExS c b n s17 (execs (g17.drop 5)) ⟨upd (upd (upd (upd (upd (upd m "place" (.int place)) "x" (.int x)) "value" (.int (v : Int))) "code" (.int (code : Int))) "sign" (.str [d1])) "mail" (.str (mail ++ s)), mu, N⟩ f σ' → ExS c b n s17 (execs g17) ⟨upd (upd m "place" (.int place)) "x" (.int x), mu, N⟩ f σ' := fun hrest =>
    pl_h1 W _ mu x v code d0 ev ecode ed0 hd0 (by walk_at "lk") (pl_h2 W _ mu d0 d1 ed1 (pl_h3 W _ mu v d1 s mail hs hsl hl1 (by walk_at "lk") (by walk_at "lk") (by walk_at "lk") hrest))
  obtain ⟨m1, em1⟩ : ∃ m1, m1 = upd (upd (upd (upd (upd (upd m "place" (.int place)) "x" (.int x)) "value" (.int (v : Int))) "code" (.int (code : Int))) "sign" (.str [d1])) "mail" (.str (mail ++ s)) := ⟨_, rfl⟩
  rw [← em1] at st
  have g0 : m1 "end" = some (.str e0) := by rw [em1]; walk_at "lk"
  have g1 : m1 "mail" = some (.str (mail ++ s)) := by rw [em1]; walk_at "lk"
  have g2 : m1 "piece" = some (.str piece) := by rw [em1]; walk_at "lk"
  have g3 : m1 "items" = some (.ml i) := by rw [em1]; walk_at "lk"
  have g4 : m1 "value" = some (.int (v : Int)) := by rw [em1]; walk_at "lk"
  have g5 : m1 "sign" = some (.str [d1]) := by rw [em1]; walk_at "lk"
  have g6 : m1 "place" = some (.int place) := by rw [em1]; walk_at "lk"
  have g7 : m1 "code" = some (.int (code : Int)) := by rw [em1]; walk_at "lk"
  clear em1 hs
  by_cases hpl : place < 3
  · obtain ⟨ps, m', q1, q2, q2', q3, q4, q5⟩ := pl_h4 (c := c) (b := b) (n := n) (N := N) W m1 mu i v code d1 e0 piece acc he hd1 (by omega) hl3 g0 g7 g4 g5 g2 g3 h5
    refine ⟨s, ps, m', _, hsl, q1, by rw [if_pos hpl]; exact q2, by rw [if_pos hpl]; exact q2', st (ExS.one (ExS.ifs (t := true) (fun ix hN => EvT.to (EvT.compare (by walk_at "n") EvS.cint Op2.lt_int (by rfl)) (by exact decide_eq_true (by omega))) (fun _ => q3) (fun h => by cases h))), (q5 _ (by simp [strEq]) (by simp [strEq]) (by simp [strEq]) (by simp [strEq])).trans g0, (q5 _ (by simp [strEq]) (by simp [strEq]) (by simp [strEq]) (by simp [strEq])).trans g1, q4, (q5 _ (by simp [strEq]) (by simp [strEq]) (by simp [strEq]) (by simp [strEq])).trans g3, if_pos rfl⟩
  · refine ⟨s, [], m1, mu, hsl, fun q hq => (by cases hq), Nat.zero_le _, Nat.zero_le _, st (ExS.one (ExS.ifs (t := false) (fun ix hN => EvT.to (EvT.compare (by walk_at "n") EvS.cint Op2.lt_int (by rfl)) (by exact decide_eq_false (by omega))) (fun h => by cases h) (fun _ => ExS.nil))), g0, g1, ?_, g3, ?_⟩
    · rw [g2]; simp [txtB]
    · rw [h5]; simp
theorem pl_loop (W : Wd1 c) (e0 : List Nat) (he : okE e0) : ∀ (xs : List Int) (place i : Nat) (m : Loc) (mu : MU) (mail : List Nat) (ps : List Pb), mail.length + 2 * xs.length ≤ 100 → ps.length ≤ 6 * (min place 3) → (txtB ps).length ≤ 6 * (min place 3) → (∀ p ∈ ps, okB e0 p) → m "end" = some (.str e0) → m "mail" = some (.str mail) → m "piece" = some (.str (txtB ps)) → m "items" = some (.ml i) → mu i = some (.list ((usB ps).map uV)) →
    ∃ (mail' : List Nat) (ps' : List Pb) (m' : Loc) (mu' : MU), mail'.length ≤ mail.length + 2 * xs.length ∧ ps'.length ≤ 18 ∧ (txtB ps').length ≤ 18 ∧ (∀ p ∈ ps', okB e0 p) ∧ FoG c b n s17 ["place", "x"] g17 (enumL place (xs.map .int)) ⟨m, mu, N⟩ .next ⟨m', mu', N⟩ ∧ m' "mail" = some (.str mail') ∧ m' "piece" = some (.str (txtB ps')) ∧ m' "items" = some (.ml i) ∧ mu' i = some (.list ((usB ps').map uV))
  | [], place, i, m, mu, mail, ps, hl, hp, ht, hok, h0, h1, h2, h3, h4 => ⟨mail, ps, m, mu, Nat.le_refl _, by omega, by omega, hok, .nil, h1, h2, h3, h4⟩
  | x :: xs, place, i, m, mu, mail, ps, hl, hp, ht, hok, h0, h1, h2, h3, h4 => by
    rw [List.length_cons] at hl
    have hul := usB_len ps
    obtain ⟨s, p, m1, mu1, a1, a2, a3, a4, a5, a0, a6, a7, a8, a9⟩ := pl_turn (c := c) (b := b) (n := n) (N := N) W m mu i place x e0 mail (txtB ps) (usB ps) he (by omega) (by omega) (by omega) h0 h1 h2 h3 h4
    rw [← txtB_app] at a7
    have eu : usB ps ++ p.flatMap itB = usB (ps ++ p) := by
      unfold usB; rw [List.flatMap_append, List.cons_append, List.cons_append]
    rw [eu] at a9
    obtain ⟨mail', ps', m', mu', b1, b2, b2', b3, b4, b5, b6, b7, b8⟩ := pl_loop W e0 he xs (place + 1) i m1 mu1 (mail ++ s) (ps ++ p) (by rw [List.length_append]; omega) (by rw [List.length_append]; split at a3 <;> omega) (by rw [txtB_app, List.length_append]; split at a4 <;> omega) (fun q hq => by
      rcases List.mem_append.mp hq with h | h
      · exact hok q h
      · exact a2 q h) a0 a6 a7 a8 a9
    rw [List.length_append] at b1
    refine ⟨mail', ps', m', mu', by rw [List.length_cons]; omega, b2, b2', b3, .turn ?_ b4, b5, b6, b7, b8⟩
    rw [setAll_two]; exact a5
theorem end_at : ∀ k, k < 3 → ∃ e0, ([[10], [13], [13, 10]] : List (List Nat))[k]? = some e0 ∧ okE e0
  | 0, _ => ⟨_, rfl, .inl rfl⟩
  | 1, _ => ⟨_, rfl, .inr (.inl rfl)⟩
  | 2, _ => ⟨_, rfl, .inr (.inr rfl)⟩
  | k + 3, h => by omega
theorem frz_us {mu : MU} {N : Nat} {us : List U} {j : Nat} (h : mu j = some (.list (us.map uV))) : Frz mu N (.ml j) (.lst (us.map uV)) := by
  refine .own h rfl fun k x y hx hy => ?_
  rw [hx] at hy; cases hy
  rw [List.getElem?_map, Option.map_eq_some_iff] at hx
  obtain ⟨u, _, rfl⟩ := hx
  refine .tup rfl fun k x y hx hy => ?_
  rw [hx] at hy; cases hy
  rcases k with _ | _ | k
  · cases hx; exact .bool _
  · cases hx; exact .str _
  · simp at hx
theorem plan_ok (W : Wd1 c) (ns : List Int) (hn : ns.length ≤ 63) : ∃ (e0 mail : List Nat) (ps : List Pb), okE e0 ∧ mail.length ≤ 18 ∧ ps.length ≤ 18 ∧ (txtB ps).length ≤ 18 ∧ (∀ p ∈ ps, okB e0 p) ∧ FnS P1 c b n 17 ["script"] [.lst (ns.map .int)] (.tup [.str mail, .str (txtB ps), .lst ((usB ps).map uV)]) N := by
  have hxs : (cut (ns ++ [11, 6, 21]) none (some 9)).length ≤ 9 := by
    have : cut (ns ++ [11, 6, 21]) none (some 9) = (ns ++ [11, 6, 21]).take (clipAt (ns ++ [11, 6, 21]).length 9) := by simp [cut]
    rw [this, show (9 : Int) = ((9 : Nat) : Int) from rfl, clipAt_nat, List.length_take]; omega
  obtain ⟨e0, hke, he⟩ := end_at (ns.length % 3) (Nat.mod_lt _ (by decide))
  have hk : ns.length % 3 < 3 := Nat.mod_lt _ (by decide)
  have hop : ∀ (m : Loc) (mu : MU) ix, Op2 c ⟨b, n, s17, m, mu, ix⟩ getItem (.lst [.str [10], .str [13], .str [13, 10]]) (.int ((ns.length % 3 : Nat) : Int)) (.str e0) := fun m mu ix =>
    Op2.item_list (l := ([[10], [13], [13, 10]] : List (List Nat)).map V.str) (k := ns.length % 3) rfl (seqIdx_nat hk) (by rw [List.getElem?_map, hke]; rfl) (by omega)
  clear hke
  have e3 : V.int ((ns.length : Int).fmod 3) = V.int ((ns.length % 3 : Nat) : Int) := by rw [show (3 : Int) = ((3 : Nat) : Int) from rfl, fm_nat]
  obtain ⟨mail', ps', m', mu', b1, b2, b2', b3, b4, b5, b6, b7, b8⟩ := pl_loop (c := c) (b := b) (n := n) (N := N + 1) W e0 he (cut (ns ++ [11, 6, 21]) none (some 9)) 0 N (upd (upd (upd (upd (argm ["script"] [.lst (ns.map .int)] fun _ => none) "end" (.str e0)) "items" (.ml N)) "piece" (.str [])) "mail" (.str [])) (updM (fun _ => none) N (.list ((usB []).map uV))) [] [] (by simp; omega) (Nat.zero_le _) (Nat.zero_le _) (fun p hp => by cases hp) (by walk_at "lk") (by walk_at "lk") (by walk_at "lk") (by walk_at "lk") (if_pos rfl)
  simp only [List.length_nil] at b1
  refine ⟨e0, mail', ps', he, by omega, b2, b2', b3, .tup [.str mail', .str (txtB ps'), .ml N], ⟨m', mu', N + 1⟩, ?_, ?_⟩
  · refine ExS.cons (ExS.assign (x := .str e0) (fun ix hN => EvS.item (EvS.list (l := [.str [10], .str [13], .str [13, 10]]) (EvL.cons (by rfl) (by walk_at "s") (EvL.cons (by rfl) (by walk_at "s") (EvL.cons (by rfl) (by walk_at "s") EvL.nil))) (by rw [sizeLine_eq]; exact of_decide_eq_true rfl)) (EvS.to (EvS.binop (EvS.to (y := .int (ns.length : Int)) (EvS.callf W.w.len (by kernel_rfl) (by walk_at "nm") (fun a => nofun) (by rfl) (EvL.cons (by rfl) (by walk_at "n") EvL.nil) (OpN.len_list (l := ns.map V.int) (by rfl))) (by rw [List.length_map])) EvS.cint (Op2.mod_int (by decide))) e3) (.lst (l := [.str [10], .str [13], .str [13, 10]]) rfl) (hop _ _ ix)) (by walk_at "kd") (fun _ => rfl)) ?_
    have tq : ∀ {j : J} {es : List PySem.Expr} {k : Nat} {pos : Pos} {g : Bool} {t : List Nat}, EvL c j (fun env => spliced (backTo pos (starEach es env))) [.bool g, .str t] → EvS c j (eval (.Tuple es k pos)) (uV (g, t)) := fun h => EvS.tuple h (by walk_at "sz")
    refine ExS.cons (ExS.assign3 (y1 := "mail") (y2 := "piece") (y3 := "items") (x1 := .str []) (x2 := .str []) (l := (usB []).map uV) (fun y hy => by simp at hy; rcases hy with rfl | rfl | rfl <;> walk_at "kd") (fun ix hN => by walk_at "s") (fun ix hN => by walk_at "s") (fun ix hN => EvL.cons (by rfl) (tq (g := false) (t := [13]) (EvL.cons (by rfl) EvS.cbool (EvL.cons (by rfl) (by walk_at "s") EvL.nil))) (EvL.cons (by rfl) (tq (g := false) (t := [10]) (EvL.cons (by rfl) EvS.cbool (EvL.cons (by rfl) (by walk_at "s") EvL.nil))) EvL.nil)) (by rw [sizeLine_eq]; exact of_decide_eq_true rfl) (by rfl) (by rfl) (fun env => rfl) (fun env he => by cases env; cases he; kernel_rfl)) ?_
    refine ExS.cons (ExS.forEnum (l := (cut (ns ++ [11, 6, 21]) none (some 9)).map V.int) (by walk_at "kd") (by walk_at "kd") W.w.enum (by kernel_rfl) (by rfl) (fun env u => rfl) (fun ix hN => EvS.to (EvS.slice_list (a := .lst (ns.map V.int ++ [.int 11, .int 6, .int 21])) (EvS.binop (a := .lst (ns.map V.int)) (b := .lst [.int 11, .int 6, .int 21]) (by walk_at "n") (EvS.list (EvL.cons (by rfl) EvS.cint (EvL.cons (by rfl) EvS.cint (EvL.cons (by rfl) EvS.cint EvL.nil))) (by walk_at "sz")) (Op2.add_list (by rfl) (by rfl) (by rw [List.length_append, List.length_map, sizeLine_eq]; simp; omega))) (by rfl) EvO.none (EvO.some EvS.cint)) (by rw [← cut_map]; simp)) b4) ?_
    exact ExS.one (ExS.ret fun ix hN => EvS.tuple (EvL.cons (by rfl) (by walk_at "n") (EvL.cons (by rfl) (by walk_at "n") (EvL.cons (by rfl) (by walk_at "n") EvL.nil))) (by walk_at "sz"))
  · refine .tup rfl fun k x y hx hy => ?_
    rcases k with _ | _ | _ | k
    · cases hx; cases hy; exact .str _
    · cases hx; cases hy; exact .str _
    · cases hx; cases hy; exact frz_us b8
    · simp at hx

end Mine

end
section
open PySem PySem.Calls PySem.W PyProof.Rows
set_option Elab.async false
set_option autoImplicit false
set_option linter.unusedVariables false
set_option maxRecDepth 100000
namespace Mine
noncomputable abbrev b24 : List Stmt := bodyAt P1 24
noncomputable abbrev s24 : Scope := scopeAt P1 24
variable {c : C} {n N : Nat}
noncomputable abbrev c24a : PySem.Expr := asgV b24[2]?
noncomputable abbrev c24b : PySem.Expr := match b24[5]? with
  | some (Stmt.If (.BoolOp _ (.Compare _ _ [.Call _ [e] _ _] _ :: _) _) _ _ _) => e
  | _ => default
noncomputable def lw_row : V → V
  | .str t => .str (dotRow t)
  | x => x
noncomputable def lw_dot : V → Bool
  | .str t => isDotR t
  | _ => false
theorem cut_take1 (l : List Nat) : cut l none (some 1) = l.take 1 := cut_to l 1
theorem flat_le_join (z : List Nat) : ∀ xs : List (List Nat), xs.flatten.length ≤ (joinL z xs).length
  | [] => Nat.le_refl _
  | [x] => by show (x ++ []).length ≤ (x ++ []).length; exact Nat.le_refl _
  | x :: y :: r => by
    have := flat_le_join z (y :: r)
    rw [joinL_cons z x (by simp), List.flatten_cons]
    simp only [List.length_append] at this ⊢
    omega
theorem mem_len (xs : List (List Nat)) : ∀ x ∈ xs, x.length ≤ xs.flatten.length := fun x hx => by
  obtain ⟨l1, l2, e⟩ := List.append_of_mem hx
  rw [e]; simp; omega
theorem lw_comp1 (W : Wd c) (m : Loc) (mu : MU) (ix : IX) (ts : List (List Nat)) (hl : ts.length ≤ 1000) (ht : ∀ t ∈ ts, t.length ≤ 1000) : CompRun c ⟨false, n, s24, m, mu, ix⟩ (cElt c24a) (cIfs c24a) (cScope c24a) "row" (ts.map .str) (fun _ => true) lw_row where
  ok := CompOk.mk' (fs := []) (by kernel_rfl) (by kernel_rfl) (by kernel_rfl) (by rfl) (by kernel_rfl) (by show (relS (cScope c24a) s24).names.lookup _ ≠ _; decide +kernel) (fun y hy => by cases hy)
  flat := fun y hy => by obtain ⟨k, _, rfl⟩ := List.mem_map.mp hy; rfl
  size := by rw [List.length_map, sizeLine_eq]; omega
  tests := fun y hy => EvT.noTests
  elt := fun y hy _ => by
    obtain ⟨t, htm, rfl⟩ := List.mem_map.mp hy
    have htl := ht t htm
    have e1 : compM m (cScope c24a) "row" (.str t) "row" = some (.str t) := compM_x
    refine ⟨rfl, EvS.to (EvS.ite (tv := decide (t.take 1 = [46])) (EvT.to (EvT.compare (EvS.slice_str (by walk_at "n") EvO.none (EvO.some EvS.cint)) (by walk_at "s") Op2.eq_str (by rfl)) (by rw [cut_take1])) (fun _ => EvS.binop (EvS.const (l := [46]) (by walk_at "cn") (by walk_at "sz")) (by walk_at "n") (Op2.add_str (by rw [sizeLine_eq]; simp; omega))) (fun _ => by walk_at "n")) ?_⟩
    show _ = V.str (dotRow t)
    unfold dotRow
    by_cases h : t.take 1 = [46]
    · rw [if_pos h, if_pos (decide_eq_true h)]; rfl
    · rw [if_neg h, if_neg (by rw [decide_eq_true_eq]; exact h)]
theorem lw_comp2 (W : Wd c) (m : Loc) (mu : MU) (ix : IX) (ts : List (List Nat)) (hl : ts.length ≤ 1000) : CompRun c ⟨false, n, s24, m, mu, ix⟩ (cElt c24b) (cIfs c24b) (cScope c24b) "row" (ts.map .str) lw_dot (fun x => x) where
  ok := CompOk.mk' (fs := []) (by kernel_rfl) (by kernel_rfl) (by kernel_rfl) (by rfl) (by kernel_rfl) (by show (relS (cScope c24b) s24).names.lookup _ ≠ _; decide +kernel) (fun y hy => by cases hy)
  flat := fun y hy => by obtain ⟨k, _, rfl⟩ := List.mem_map.mp hy; rfl
  size := by rw [List.length_map, sizeLine_eq]; omega
  tests := fun y hy => by
    obtain ⟨t, htm, rfl⟩ := List.mem_map.mp hy
    have e1 : compM m (cScope c24b) "row" (.str t) "row" = some (.str t) := compM_x
    refine EvT.oneTest ?_
    exact EvT.to (EvT.compare (EvS.slice_str (by walk_at "n") EvO.none (EvO.some EvS.cint)) (by walk_at "s") Op2.eq_str (by rfl)) (by rw [cut_take1]; rfl)
  elt := fun y hy _ => by
    obtain ⟨t, _, rfl⟩ := List.mem_map.mp hy
    have e1 : compM m (cScope c24b) "row" (.str t) "row" = some (.str t) := compM_x
    exact ⟨rfl, by walk_at "n"⟩
theorem rows_map (l : List (List Nat)) : ((l.map V.str).filter fun _ => true).map lw_row = (l.map dotRow).map V.str := by
  rw [List.filter_eq_self.mpr (fun _ _ => rfl), List.map_map, List.map_map]; rfl
theorem rows_dot (l : List (List Nat)) : (((l.map V.str).filter lw_dot).map fun x => x).length = nDot l := by
  rw [List.map_id', List.filter_map, List.length_map]; rfl
theorem law_ok (W : Wd1 c) (ns : List Int) (hn : ns.length ≤ 63) : FnS P1 c false (n + 4) 24 ["script"] [.lst (ns.map .int)] (.bool true) N := by
  obtain ⟨e0, mail, ps, he, hmail, hps, hpt, hok, hplan⟩ := plan_ok (c := c) (b := false) (n := n + 3) (N := N) W ns hn
  obtain ⟨R, eR⟩ : ∃ R, R = rowsL mail := ⟨_, rfl⟩
  have hrl : R.length ≤ 19 := by have := rows_count mail false []; rw [eR]; unfold rowsL; omega
  have hfx := fixE_length mail
  have hqx := dotAll_length true (fixE mail)
  have hE : signsL R = 13 :: 10 :: fixE mail := by rw [eR]; exact rows_text mail
  have hS : signsL (R.map dotRow) = 13 :: 10 :: dotAll true (fixE mail) := by rw [eR]; exact quote_text mail
  have hEl : (signsL R).length ≤ 100 := by rw [hE]; simp only [List.length_cons]; omega
  have hSl : (signsL (R.map dotRow)).length ≤ 100 := by rw [hS]; simp only [List.length_cons]; omega
  have hrt : ∀ t ∈ R, t.length ≤ 1000 := fun t ht => by
    have h1 := mem_len _ t ht
    have h2 := flat_le_join [13, 10] R
    have h3 : (joinL [13, 10] R).length ≤ (signsL R).length := by unfold signsL; simp only [List.length_cons]; omega
    omega
  have hjl : ((13 :: 10 :: dotAll true (fixE mail)).length : Int) - ((13 :: 10 :: fixE mail).length : Int) = ((nDot R : Nat) : Int) := by
    have := join_len R
    have h1 : (signsL (R.map dotRow)).length = (signsL R).length + nDot R := by unfold signsL; simp only [List.length_cons]; omega
    rw [hS, hE] at h1; omega
  have hdd : dueL (usB [.dot]) (signsL R) = nDot R := by
    have h1 : R ≠ [] := by rw [eR]; exact rows_ne mail false []
    have h2 : ∀ r ∈ R, clean r := by rw [eR]; exact rows_clean mail false [] ⟨by simp, by simp⟩
    exact due_dots R h1 h2
  have C1 : ∀ N, FnS P1 c false (n + 3) 23 ["piece", "heard", "due"] [.str [46], .str (13 :: 10 :: fixE mail), .int ((nDot R : Nat) : Int)] (.bool true) N := fun N => by
    have := counts_B (c := c) (n := n) (N := N) W he [.dot] (fun p hp => by rw [List.mem_singleton.mp hp]; trivial) (by decide) (by decide) (signsL R) hEl
    rw [hdd, hE] at this; exact this
  have C2 : ∀ N, FnS P1 c false (n + 3) 23 ["piece", "heard", "due"] [.str (txtB ps), .str (13 :: 10 :: fixE mail), .int ((dueL (usB ps) (signsL R) : Nat) : Int)] (.bool true) N := fun N => by
    have := counts_B (c := c) (n := n) (N := N) W he ps hok hps (by omega) (signsL R) hEl
    rw [hE] at this ⊢; exact this
  have C3 : ∀ N, FnS P1 c false (n + 3) 23 ["piece", "heard", "due"] [.str (txtB ps), .str (13 :: 10 :: dotAll true (fixE mail)), .int ((dueL (usB ps) (signsL (R.map dotRow)) : Nat) : Int)] (.bool true) N := fun N => by
    have := counts_B (c := c) (n := n) (N := N) W he ps hok hps (by omega) (signsL (R.map dotRow)) hSl
    rw [hS] at this ⊢; exact this
  have hus := usB_len ps
  have D1 : ∀ N, FnS P1 c false (n + 3) 20 ["items", "rows"] [.lst ((usB ps).map uV), .lst (R.map .str)] (.int ((dueL (usB ps) (signsL R) : Nat) : Int)) N := fun N =>
    due_ok (n := n + 2) W (usB ps) (by omega) (by omega) R (by omega) (by omega)
  have D2 : ∀ N, FnS P1 c false (n + 3) 20 ["items", "rows"] [.lst ((usB ps).map uV), .lst ((R.map dotRow).map .str)] (.int ((dueL (usB ps) (signsL (R.map dotRow)) : Nat) : Int)) N := fun N =>
    due_ok (n := n + 2) W (usB ps) (by omega) (by omega) (R.map dotRow) (by rw [List.length_map]; omega) (by omega)
  have hrows : ∀ N, FnS P1 c false (n + 3) 18 ["mail"] [.str mail] (.lst (R.map .str)) N := fun N => by rw [eR]; exact rows_ok W.w mail (by omega)
  clear eR hE hS hdd
  refine ⟨.bool true, ⟨upd (upd (upd (upd (upd (upd (upd (upd (argm ["script"] [.lst (ns.map .int)] fun _ => none) "mail" (.str mail)) "piece" (.str (txtB ps))) "items" (.lst ((usB ps).map uV))) "rows" (.lst (R.map .str))) "quoted" (.lst ((R.map dotRow).map .str))) "sent" (.str (13 :: 10 :: dotAll true (fixE mail)))) "even" (.str (13 :: 10 :: fixE mail))) "added" (.int ((nDot R : Nat) : Int)), fun _ => none, N⟩, ?_, .bool _⟩
  refine ExS.cons (ExS.assignTup (ys := ["mail", "piece", "items"]) (xs := [.str mail, .str (txtB ps), .lst ((usB ps).map uV)]) (by rfl) (fun y hy => by simp at hy; rcases hy with rfl | rfl | rfl <;> walk_at "kd") (by rfl) (fun ix hN => EvS.own (P := P1) (n' := n + 3) W.g100 (by kernel_rfl) (by walk_at "nm") W.F100 (by rfl) (EvL.cons (by rfl) (by walk_at "n") EvL.nil) (by rfl) (by rfl) (by rw [show ix.N = N from hN]; exact hplan)) (fun env => rfl) (fun env => rfl)) ?_
  refine ExS.cons (ExS.assign (x := .lst (R.map .str)) (fun ix hN => EvS.own (P := P1) (n' := n + 3) W.g107 (by kernel_rfl) (by walk_at "nm") W.F107 (by rfl) (EvL.cons (by rfl) (by walk_at "n") EvL.nil) (by rfl) (by rfl) (hrows _)) (by walk_at "kd") (fun _ => rfl)) ?_
  refine ExS.cons (ExS.to (ExS.assignComp (x := "row") (xv := .lst (R.map .str)) (tst := fun _ => true) (g := lw_row) (fun ix hN => by walk_at "n") (.lst _) (fun _ _ => rfl) (fun ix hN => lw_comp1 W.w _ _ ix R (by omega) hrt) (by kernel_rfl) (fun env he => by cases env; cases he; kernel_rfl)) (congrArg (fun q => Sg.set _ "quoted" (V.lst q)) (rows_map R))) ?_
  refine ExS.cons (ExS.assignSwap (ys := ["even", "sent"]) (xs := [.str (13 :: 10 :: fixE mail), .str (13 :: 10 :: dotAll true (fixE mail))]) (fun y hy => by simp at hy; rcases hy with rfl | rfl <;> walk_at "kd") (by rfl) (fun ix hN => EvS.tuple (EvL.cons (by rfl) (EvS.binop (EvS.const (l := [13, 10]) (by walk_at "cn") (by walk_at "sz")) (EvS.own (P := P1) (n' := n + 3) W.w.f55 (by kernel_rfl) (by walk_at "nm") W.F55 (by rfl) (EvL.cons (by rfl) (by walk_at "n") EvL.nil) (by rfl) (by rfl) (fix_ok W.w mail (by omega))) (Op2.add_str (by rw [List.length_append, sizeLine_eq]; simp; omega))) (EvL.cons (by rfl) (EvS.binop (EvS.const (l := [13, 10]) (by walk_at "cn") (by walk_at "sz")) (EvS.own (P := P1) (n' := n + 3) W.w.f48 (by kernel_rfl) (by walk_at "nm") W.F48 (by rfl) (EvL.cons (by rfl) (by walk_at "n") EvL.nil) (by rfl) (by rfl) (quote_ok W.w mail (by omega))) (Op2.add_str (by rw [List.length_append, sizeLine_eq]; simp; omega))) EvL.nil)) (by walk_at "sz")) (fun env => rfl) (fun env he => by cases env; cases he; kernel_rfl)) ?_
  refine ExS.cons (ExS.assign (x := .int ((nDot R : Nat) : Int)) (fun ix hN => EvS.to (EvS.binop (EvS.callf W.w.len (by kernel_rfl) (by walk_at "nm") (fun a => nofun) (by rfl) (EvL.cons (by rfl) (by walk_at "n") EvL.nil) OpN.len_str) (EvS.callf W.w.len (by kernel_rfl) (by walk_at "nm") (fun a => nofun) (by rfl) (EvL.cons (by rfl) (by walk_at "n") EvL.nil) OpN.len_str) Op2.sub_int) (congrArg V.int hjl)) (by walk_at "kd") (fun _ => rfl)) ?_
  refine ExS.cons (ExS.ifs (t := false) (fun ix hN => EvT.to (EvT.tbool (EvT.boolOr (t := false) (r := false) (EvT.to (EvT.compare (a := .int ((nDot R : Nat) : Int)) (b := .int ((nDot R : Nat) : Int)) (by walk_at "n") (EvS.to (EvS.callf W.w.len (by kernel_rfl) (by walk_at "nm") (fun a => nofun) (by rfl) (EvL.cons (by rfl) (EvS.comp (x := "row") (xv := .lst (R.map .str)) (tst := lw_dot) (g := fun x => x) (by walk_at "n") (.lst _) (fun _ _ => rfl) (lw_comp2 W.w _ _ ix R (by omega))) EvL.nil) (OpN.len_list (l := ((R.map V.str).filter lw_dot).map fun x => x) (by rfl))) (by rw [rows_dot])) Op2.ne_int (by rfl)) (by rw [decide_eq_true rfl]; rfl)) fun _ => EvT.boolOr (t := false) (r := false) (EvT.to (EvT.tnot (EvT.plain (by rfl) (EvS.own (P := P1) (n' := n + 3) W.g140 (by kernel_rfl) (by walk_at "nm") W.F140 (by rfl) (EvL.cons (by rfl) (EvS.const (l := [46]) (by walk_at "cn") (by walk_at "sz")) (EvL.cons (by rfl) (by walk_at "n") (EvL.cons (by rfl) (by walk_at "n") EvL.nil))) (by rfl) (by rfl) (C1 _)) OpT.bool)) (by rfl)) fun _ => EvT.boolNil)) (by rfl)) (fun h => by cases h) (fun _ => ExS.nil)) ?_
  refine ExS.one (ExS.ret fun ix hN => ?_)
  exact EvS.and2 (a := .bool true) (t := true) (EvS.own (P := P1) (n' := n + 3) W.g140 (by kernel_rfl) (by walk_at "nm") W.F140 (by rfl) (EvL.cons (by rfl) (by walk_at "n") (EvL.cons (by rfl) (by walk_at "n") (EvL.cons (by rfl) (EvS.own (P := P1) (n' := n + 3) W.g119 (by kernel_rfl) (by walk_at "nm") W.F119 (by rfl) (EvL.cons (by rfl) (by walk_at "n") (EvL.cons (by rfl) (by walk_at "n") EvL.nil)) (by rfl) (by rfl) (D1 _)) EvL.nil))) (by rfl) (by rfl) (C2 _)) OpT.bool (fun _ => EvS.own (P := P1) (n' := n + 3) W.g140 (by kernel_rfl) (by walk_at "nm") W.F140 (by rfl) (EvL.cons (by rfl) (by walk_at "n") (EvL.cons (by rfl) (by walk_at "n") (EvL.cons (by rfl) (EvS.own (P := P1) (n' := n + 3) W.g119 (by kernel_rfl) (by walk_at "nm") W.F119 (by rfl) (EvL.cons (by rfl) (by walk_at "n") (EvL.cons (by rfl) (by walk_at "n") EvL.nil)) (by rfl) (by rfl) (D2 _)) EvL.nil))) (by rfl) (by rfl) (C3 _)) (fun h => by cases h)

end Mine

end
section
open PySem PySem.Calls PySem.W PyProof.Rows
set_option Elab.async false
set_option autoImplicit false
set_option linter.unusedVariables false
set_option maxRecDepth 100000
set_option maxHeartbeats 0
namespace Mine
noncomputable def paramsAt (p : Program) (k : Nat) : Arguments := match p.main.body[k]? with
  | some (.FunctionDef _ a _ _ _ _ _ _ _ _) => a
  | _ => default
noncomputable def posAt (p : Program) (k : Nat) : Pos := match p.main.body[k]? with
  | some (.FunctionDef _ _ _ _ _ _ _ _ _ p) => p
  | _ => default
noncomputable def o41 (P : Params) : Obj := { cls := .type "dict", data := .dict #[{ hash := PyData.keyHash P (Str.ofString "__name__"), key := .str (Str.ofString "__name__") 1, val := .str (Str.ofString "builtins") 160 }, { hash := PyData.keyHash P (Str.ofString "__doc__"), key := .str (Str.ofString "__doc__") 2, val := .builtin "builtins.__doc__:str#opaque" }, { hash := PyData.keyHash P (Str.ofString "__package__"), key := .str (Str.ofString "__package__") 3, val := .builtin "builtins.__package__:str#opaque" }, { hash := PyData.keyHash P (Str.ofString "__loader__"), key := .str (Str.ofString "__loader__") 4, val := .builtin "builtins.__loader__:shared#opaque" }, { hash := PyData.keyHash P (Str.ofString "__spec__"), key := .str (Str.ofString "__spec__") 5, val := .builtin "builtins.__spec__#opaque" }, { hash := PyData.keyHash P (Str.ofString "__build_class__"), key := .str (Str.ofString "__build_class__") 6, val := .builtin "__build_class__" }, { hash := PyData.keyHash P (Str.ofString "__import__"), key := .str (Str.ofString "__import__") 7, val := .builtin "__import__" }, { hash := PyData.keyHash P (Str.ofString "abs"), key := .str (Str.ofString "abs") 8, val := .builtin "abs" }, { hash := PyData.keyHash P (Str.ofString "all"), key := .str (Str.ofString "all") 9, val := .builtin "all" }, { hash := PyData.keyHash P (Str.ofString "any"), key := .str (Str.ofString "any") 10, val := .builtin "any" }, { hash := PyData.keyHash P (Str.ofString "ascii"), key := .str (Str.ofString "ascii") 11, val := .builtin "ascii" }, { hash := PyData.keyHash P (Str.ofString "bin"), key := .str (Str.ofString "bin") 12, val := .builtin "bin" }, { hash := PyData.keyHash P (Str.ofString "breakpoint"), key := .str (Str.ofString "breakpoint") 13, val := .builtin "breakpoint" }, { hash := PyData.keyHash P (Str.ofString "callable"), key := .str (Str.ofString "callable") 14, val := .builtin "callable" }, { hash := PyData.keyHash P (Str.ofString "chr"), key := .str (Str.ofString "chr") 15, val := .builtin "chr" }, { hash := PyData.keyHash P (Str.ofString "compile"), key := .str (Str.ofString "compile") 16, val := .builtin "compile" }, { hash := PyData.keyHash P (Str.ofString "delattr"), key := .str (Str.ofString "delattr") 17, val := .builtin "delattr" }, { hash := PyData.keyHash P (Str.ofString "dir"), key := .str (Str.ofString "dir") 18, val := .builtin "dir" }, { hash := PyData.keyHash P (Str.ofString "divmod"), key := .str (Str.ofString "divmod") 19, val := .builtin "divmod" }, { hash := PyData.keyHash P (Str.ofString "eval"), key := .str (Str.ofString "eval") 20, val := .builtin "eval" }, { hash := PyData.keyHash P (Str.ofString "exec"), key := .str (Str.ofString "exec") 21, val := .builtin "exec" }, { hash := PyData.keyHash P (Str.ofString "format"), key := .str (Str.ofString "format") 22, val := .builtin "format" }, { hash := PyData.keyHash P (Str.ofString "getattr"), key := .str (Str.ofString "getattr") 23, val := .builtin "getattr" }, { hash := PyData.keyHash P (Str.ofString "globals"), key := .str (Str.ofString "globals") 24, val := .builtin "globals" }, { hash := PyData.keyHash P (Str.ofString "hasattr"), key := .str (Str.ofString "hasattr") 25, val := .builtin "hasattr" }, { hash := PyData.keyHash P (Str.ofString "hash"), key := .str (Str.ofString "hash") 26, val := .builtin "hash" }, { hash := PyData.keyHash P (Str.ofString "hex"), key := .str (Str.ofString "hex") 27, val := .builtin "hex" }, { hash := PyData.keyHash P (Str.ofString "id"), key := .str (Str.ofString "id") 28, val := .builtin "id" }, { hash := PyData.keyHash P (Str.ofString "input"), key := .str (Str.ofString "input") 29, val := .builtin "input" }, { hash := PyData.keyHash P (Str.ofString "isinstance"), key := .str (Str.ofString "isinstance") 30, val := .builtin "isinstance" }, { hash := PyData.keyHash P (Str.ofString "issubclass"), key := .str (Str.ofString "issubclass") 31, val := .builtin "issubclass" }, { hash := PyData.keyHash P (Str.ofString "iter"), key := .str (Str.ofString "iter") 32, val := .builtin "iter" }, { hash := PyData.keyHash P (Str.ofString "aiter"), key := .str (Str.ofString "aiter") 33, val := .builtin "aiter" }, { hash := PyData.keyHash P (Str.ofString "len"), key := .str (Str.ofString "len") 34, val := .builtin "len" }, { hash := PyData.keyHash P (Str.ofString "locals"), key := .str (Str.ofString "locals") 35, val := .builtin "locals" }, { hash := PyData.keyHash P (Str.ofString "max"), key := .str (Str.ofString "max") 36, val := .builtin "max" }, { hash := PyData.keyHash P (Str.ofString "min"), key := .str (Str.ofString "min") 37, val := .builtin "min" }, { hash := PyData.keyHash P (Str.ofString "next"), key := .str (Str.ofString "next") 38, val := .builtin "next" }, { hash := PyData.keyHash P (Str.ofString "anext"), key := .str (Str.ofString "anext") 39, val := .builtin "anext" }, { hash := PyData.keyHash P (Str.ofString "oct"), key := .str (Str.ofString "oct") 40, val := .builtin "oct" }, { hash := PyData.keyHash P (Str.ofString "ord"), key := .str (Str.ofString "ord") 41, val := .builtin "ord" }, { hash := PyData.keyHash P (Str.ofString "pow"), key := .str (Str.ofString "pow") 42, val := .builtin "pow" }, { hash := PyData.keyHash P (Str.ofString "print"), key := .str (Str.ofString "print") 43, val := .builtin "print" }, { hash := PyData.keyHash P (Str.ofString "repr"), key := .str (Str.ofString "repr") 44, val := .builtin "repr" }, { hash := PyData.keyHash P (Str.ofString "round"), key := .str (Str.ofString "round") 45, val := .builtin "round" }, { hash := PyData.keyHash P (Str.ofString "setattr"), key := .str (Str.ofString "setattr") 46, val := .builtin "setattr" }, { hash := PyData.keyHash P (Str.ofString "sorted"), key := .str (Str.ofString "sorted") 47, val := .builtin "sorted" }, { hash := PyData.keyHash P (Str.ofString "sum"), key := .str (Str.ofString "sum") 48, val := .builtin "sum" }, { hash := PyData.keyHash P (Str.ofString "vars"), key := .str (Str.ofString "vars") 49, val := .builtin "vars" }, { hash := PyData.keyHash P (Str.ofString "None"), key := .str (Str.ofString "None") 50, val := .none }, { hash := PyData.keyHash P (Str.ofString "Ellipsis"), key := .str (Str.ofString "Ellipsis") 51, val := .ellipsis }, { hash := PyData.keyHash P (Str.ofString "NotImplemented"), key := .str (Str.ofString "NotImplemented") 52, val := .notImplemented }, { hash := PyData.keyHash P (Str.ofString "False"), key := .str (Str.ofString "False") 53, val := .bool false }, { hash := PyData.keyHash P (Str.ofString "True"), key := .str (Str.ofString "True") 54, val := .bool true }, { hash := PyData.keyHash P (Str.ofString "bool"), key := .str (Str.ofString "bool") 55, val := .type "bool" }, { hash := PyData.keyHash P (Str.ofString "memoryview"), key := .str (Str.ofString "memoryview") 56, val := .type "memoryview" }, { hash := PyData.keyHash P (Str.ofString "bytearray"), key := .str (Str.ofString "bytearray") 57, val := .type "bytearray" }, { hash := PyData.keyHash P (Str.ofString "bytes"), key := .str (Str.ofString "bytes") 58, val := .type "bytes" }, { hash := PyData.keyHash P (Str.ofString "classmethod"), key := .str (Str.ofString "classmethod") 59, val := .type "classmethod" }, { hash := PyData.keyHash P (Str.ofString "complex"), key := .str (Str.ofString "complex") 60, val := .type "complex" }, { hash := PyData.keyHash P (Str.ofString "dict"), key := .str (Str.ofString "dict") 61, val := .type "dict" }, { hash := PyData.keyHash P (Str.ofString "enumerate"), key := .str (Str.ofString "enumerate") 62, val := .type "enumerate" }, { hash := PyData.keyHash P (Str.ofString "filter"), key := .str (Str.ofString "filter") 63, val := .type "filter" }, { hash := PyData.keyHash P (Str.ofString "float"), key := .str (Str.ofString "float") 64, val := .type "float" }, { hash := PyData.keyHash P (Str.ofString "frozenset"), key := .str (Str.ofString "frozenset") 65, val := .type "frozenset" }, { hash := PyData.keyHash P (Str.ofString "property"), key := .str (Str.ofString "property") 66, val := .type "property" }, { hash := PyData.keyHash P (Str.ofString "int"), key := .str (Str.ofString "int") 67, val := .type "int" }, { hash := PyData.keyHash P (Str.ofString "list"), key := .str (Str.ofString "list") 68, val := .type "list" }, { hash := PyData.keyHash P (Str.ofString "map"), key := .str (Str.ofString "map") 69, val := .type "map" }, { hash := PyData.keyHash P (Str.ofString "object"), key := .str (Str.ofString "object") 70, val := .type "object" }, { hash := PyData.keyHash P (Str.ofString "range"), key := .str (Str.ofString "range") 71, val := .type "range" }, { hash := PyData.keyHash P (Str.ofString "reversed"), key := .str (Str.ofString "reversed") 72, val := .type "reversed" }, { hash := PyData.keyHash P (Str.ofString "set"), key := .str (Str.ofString "set") 73, val := .type "set" }, { hash := PyData.keyHash P (Str.ofString "slice"), key := .str (Str.ofString "slice") 74, val := .type "slice" }, { hash := PyData.keyHash P (Str.ofString "staticmethod"), key := .str (Str.ofString "staticmethod") 75, val := .type "staticmethod" }, { hash := PyData.keyHash P (Str.ofString "str"), key := .str (Str.ofString "str") 76, val := .type "str" }, { hash := PyData.keyHash P (Str.ofString "super"), key := .str (Str.ofString "super") 77, val := .type "super" }, { hash := PyData.keyHash P (Str.ofString "tuple"), key := .str (Str.ofString "tuple") 78, val := .type "tuple" }, { hash := PyData.keyHash P (Str.ofString "type"), key := .str (Str.ofString "type") 79, val := .type "type" }, { hash := PyData.keyHash P (Str.ofString "zip"), key := .str (Str.ofString "zip") 80, val := .type "zip" }, { hash := PyData.keyHash P (Str.ofString "__debug__"), key := .str (Str.ofString "__debug__") 81, val := .bool true }, { hash := PyData.keyHash P (Str.ofString "BaseException"), key := .str (Str.ofString "BaseException") 82, val := .type "BaseException" }, { hash := PyData.keyHash P (Str.ofString "BaseExceptionGroup"), key := .str (Str.ofString "BaseExceptionGroup") 83, val := .type "BaseExceptionGroup" }, { hash := PyData.keyHash P (Str.ofString "Exception"), key := .str (Str.ofString "Exception") 84, val := .type "Exception" }, { hash := PyData.keyHash P (Str.ofString "GeneratorExit"), key := .str (Str.ofString "GeneratorExit") 85, val := .type "GeneratorExit" }, { hash := PyData.keyHash P (Str.ofString "KeyboardInterrupt"), key := .str (Str.ofString "KeyboardInterrupt") 86, val := .type "KeyboardInterrupt" }, { hash := PyData.keyHash P (Str.ofString "SystemExit"), key := .str (Str.ofString "SystemExit") 87, val := .type "SystemExit" }, { hash := PyData.keyHash P (Str.ofString "ArithmeticError"), key := .str (Str.ofString "ArithmeticError") 88, val := .type "ArithmeticError" }, { hash := PyData.keyHash P (Str.ofString "AssertionError"), key := .str (Str.ofString "AssertionError") 89, val := .type "AssertionError" }, { hash := PyData.keyHash P (Str.ofString "AttributeError"), key := .str (Str.ofString "AttributeError") 90, val := .type "AttributeError" }, { hash := PyData.keyHash P (Str.ofString "BufferError"), key := .str (Str.ofString "BufferError") 91, val := .type "BufferError" }, { hash := PyData.keyHash P (Str.ofString "EOFError"), key := .str (Str.ofString "EOFError") 92, val := .type "EOFError" }, { hash := PyData.keyHash P (Str.ofString "ImportError"), key := .str (Str.ofString "ImportError") 93, val := .type "ImportError" }, { hash := PyData.keyHash P (Str.ofString "LookupError"), key := .str (Str.ofString "LookupError") 94, val := .type "LookupError" }, { hash := PyData.keyHash P (Str.ofString "MemoryError"), key := .str (Str.ofString "MemoryError") 95, val := .type "MemoryError" }, { hash := PyData.keyHash P (Str.ofString "NameError"), key := .str (Str.ofString "NameError") 96, val := .type "NameError" }, { hash := PyData.keyHash P (Str.ofString "OSError"), key := .str (Str.ofString "OSError") 97, val := .type "OSError" }, { hash := PyData.keyHash P (Str.ofString "ReferenceError"), key := .str (Str.ofString "ReferenceError") 98, val := .type "ReferenceError" }, { hash := PyData.keyHash P (Str.ofString "RuntimeError"), key := .str (Str.ofString "RuntimeError") 99, val := .type "RuntimeError" }, { hash := PyData.keyHash P (Str.ofString "StopAsyncIteration"), key := .str (Str.ofString "StopAsyncIteration") 100, val := .type "StopAsyncIteration" }, { hash := PyData.keyHash P (Str.ofString "StopIteration"), key := .str (Str.ofString "StopIteration") 101, val := .type "StopIteration" }, { hash := PyData.keyHash P (Str.ofString "SyntaxError"), key := .str (Str.ofString "SyntaxError") 102, val := .type "SyntaxError" }, { hash := PyData.keyHash P (Str.ofString "SystemError"), key := .str (Str.ofString "SystemError") 103, val := .type "SystemError" }, { hash := PyData.keyHash P (Str.ofString "TypeError"), key := .str (Str.ofString "TypeError") 104, val := .type "TypeError" }, { hash := PyData.keyHash P (Str.ofString "ValueError"), key := .str (Str.ofString "ValueError") 105, val := .type "ValueError" }, { hash := PyData.keyHash P (Str.ofString "Warning"), key := .str (Str.ofString "Warning") 106, val := .type "Warning" }, { hash := PyData.keyHash P (Str.ofString "FloatingPointError"), key := .str (Str.ofString "FloatingPointError") 107, val := .type "FloatingPointError" }, { hash := PyData.keyHash P (Str.ofString "OverflowError"), key := .str (Str.ofString "OverflowError") 108, val := .type "OverflowError" }, { hash := PyData.keyHash P (Str.ofString "ZeroDivisionError"), key := .str (Str.ofString "ZeroDivisionError") 109, val := .type "ZeroDivisionError" }, { hash := PyData.keyHash P (Str.ofString "BytesWarning"), key := .str (Str.ofString "BytesWarning") 110, val := .type "BytesWarning" }, { hash := PyData.keyHash P (Str.ofString "DeprecationWarning"), key := .str (Str.ofString "DeprecationWarning") 111, val := .type "DeprecationWarning" }, { hash := PyData.keyHash P (Str.ofString "EncodingWarning"), key := .str (Str.ofString "EncodingWarning") 112, val := .type "EncodingWarning" }, { hash := PyData.keyHash P (Str.ofString "FutureWarning"), key := .str (Str.ofString "FutureWarning") 113, val := .type "FutureWarning" }, { hash := PyData.keyHash P (Str.ofString "ImportWarning"), key := .str (Str.ofString "ImportWarning") 114, val := .type "ImportWarning" }, { hash := PyData.keyHash P (Str.ofString "PendingDeprecationWarning"), key := .str (Str.ofString "PendingDeprecationWarning") 115, val := .type "PendingDeprecationWarning" }, { hash := PyData.keyHash P (Str.ofString "ResourceWarning"), key := .str (Str.ofString "ResourceWarning") 116, val := .type "ResourceWarning" }, { hash := PyData.keyHash P (Str.ofString "RuntimeWarning"), key := .str (Str.ofString "RuntimeWarning") 117, val := .type "RuntimeWarning" }, { hash := PyData.keyHash P (Str.ofString "SyntaxWarning"), key := .str (Str.ofString "SyntaxWarning") 118, val := .type "SyntaxWarning" }, { hash := PyData.keyHash P (Str.ofString "UnicodeWarning"), key := .str (Str.ofString "UnicodeWarning") 119, val := .type "UnicodeWarning" }, { hash := PyData.keyHash P (Str.ofString "UserWarning"), key := .str (Str.ofString "UserWarning") 120, val := .type "UserWarning" }, { hash := PyData.keyHash P (Str.ofString "BlockingIOError"), key := .str (Str.ofString "BlockingIOError") 121, val := .type "BlockingIOError" }, { hash := PyData.keyHash P (Str.ofString "ChildProcessError"), key := .str (Str.ofString "ChildProcessError") 122, val := .type "ChildProcessError" }, { hash := PyData.keyHash P (Str.ofString "ConnectionError"), key := .str (Str.ofString "ConnectionError") 123, val := .type "ConnectionError" }, { hash := PyData.keyHash P (Str.ofString "FileExistsError"), key := .str (Str.ofString "FileExistsError") 124, val := .type "FileExistsError" }, { hash := PyData.keyHash P (Str.ofString "FileNotFoundError"), key := .str (Str.ofString "FileNotFoundError") 125, val := .type "FileNotFoundError" }, { hash := PyData.keyHash P (Str.ofString "InterruptedError"), key := .str (Str.ofString "InterruptedError") 126, val := .type "InterruptedError" }, { hash := PyData.keyHash P (Str.ofString "IsADirectoryError"), key := .str (Str.ofString "IsADirectoryError") 127, val := .type "IsADirectoryError" }, { hash := PyData.keyHash P (Str.ofString "NotADirectoryError"), key := .str (Str.ofString "NotADirectoryError") 128, val := .type "NotADirectoryError" }, { hash := PyData.keyHash P (Str.ofString "PermissionError"), key := .str (Str.ofString "PermissionError") 129, val := .type "PermissionError" }, { hash := PyData.keyHash P (Str.ofString "ProcessLookupError"), key := .str (Str.ofString "ProcessLookupError") 130, val := .type "ProcessLookupError" }, { hash := PyData.keyHash P (Str.ofString "TimeoutError"), key := .str (Str.ofString "TimeoutError") 131, val := .type "TimeoutError" }, { hash := PyData.keyHash P (Str.ofString "IndentationError"), key := .str (Str.ofString "IndentationError") 132, val := .type "IndentationError" }, { hash := PyData.keyHash P (Str.ofString "_IncompleteInputError"), key := .str (Str.ofString "_IncompleteInputError") 133, val := .type "_IncompleteInputError" }, { hash := PyData.keyHash P (Str.ofString "IndexError"), key := .str (Str.ofString "IndexError") 134, val := .type "IndexError" }, { hash := PyData.keyHash P (Str.ofString "KeyError"), key := .str (Str.ofString "KeyError") 135, val := .type "KeyError" }, { hash := PyData.keyHash P (Str.ofString "ModuleNotFoundError"), key := .str (Str.ofString "ModuleNotFoundError") 136, val := .type "ModuleNotFoundError" }, { hash := PyData.keyHash P (Str.ofString "NotImplementedError"), key := .str (Str.ofString "NotImplementedError") 137, val := .type "NotImplementedError" }, { hash := PyData.keyHash P (Str.ofString "PythonFinalizationError"), key := .str (Str.ofString "PythonFinalizationError") 138, val := .type "PythonFinalizationError" }, { hash := PyData.keyHash P (Str.ofString "RecursionError"), key := .str (Str.ofString "RecursionError") 139, val := .type "RecursionError" }, { hash := PyData.keyHash P (Str.ofString "UnboundLocalError"), key := .str (Str.ofString "UnboundLocalError") 140, val := .type "UnboundLocalError" }, { hash := PyData.keyHash P (Str.ofString "UnicodeError"), key := .str (Str.ofString "UnicodeError") 141, val := .type "UnicodeError" }, { hash := PyData.keyHash P (Str.ofString "BrokenPipeError"), key := .str (Str.ofString "BrokenPipeError") 142, val := .type "BrokenPipeError" }, { hash := PyData.keyHash P (Str.ofString "ConnectionAbortedError"), key := .str (Str.ofString "ConnectionAbortedError") 143, val := .type "ConnectionAbortedError" }, { hash := PyData.keyHash P (Str.ofString "ConnectionRefusedError"), key := .str (Str.ofString "ConnectionRefusedError") 144, val := .type "ConnectionRefusedError" }, { hash := PyData.keyHash P (Str.ofString "ConnectionResetError"), key := .str (Str.ofString "ConnectionResetError") 145, val := .type "ConnectionResetError" }, { hash := PyData.keyHash P (Str.ofString "TabError"), key := .str (Str.ofString "TabError") 146, val := .type "TabError" }, { hash := PyData.keyHash P (Str.ofString "UnicodeDecodeError"), key := .str (Str.ofString "UnicodeDecodeError") 147, val := .type "UnicodeDecodeError" }, { hash := PyData.keyHash P (Str.ofString "UnicodeEncodeError"), key := .str (Str.ofString "UnicodeEncodeError") 148, val := .type "UnicodeEncodeError" }, { hash := PyData.keyHash P (Str.ofString "UnicodeTranslateError"), key := .str (Str.ofString "UnicodeTranslateError") 149, val := .type "UnicodeTranslateError" }, { hash := PyData.keyHash P (Str.ofString "ExceptionGroup"), key := .str (Str.ofString "ExceptionGroup") 150, val := .type "ExceptionGroup" }, { hash := PyData.keyHash P (Str.ofString "EnvironmentError"), key := .str (Str.ofString "EnvironmentError") 151, val := .type "OSError" }, { hash := PyData.keyHash P (Str.ofString "IOError"), key := .str (Str.ofString "IOError") 152, val := .type "OSError" }, { hash := PyData.keyHash P (Str.ofString "open"), key := .str (Str.ofString "open") 153, val := .builtin "open" }, { hash := PyData.keyHash P (Str.ofString "quit"), key := .str (Str.ofString "quit") 154, val := .builtin "builtins.quit#opaque" }, { hash := PyData.keyHash P (Str.ofString "exit"), key := .str (Str.ofString "exit") 155, val := .builtin "builtins.exit#opaque" }, { hash := PyData.keyHash P (Str.ofString "copyright"), key := .str (Str.ofString "copyright") 156, val := .builtin "builtins.copyright#opaque" }, { hash := PyData.keyHash P (Str.ofString "credits"), key := .str (Str.ofString "credits") 157, val := .builtin "builtins.credits#opaque" }, { hash := PyData.keyHash P (Str.ofString "license"), key := .str (Str.ofString "license") 158, val := .builtin "builtins.license#opaque" }, { hash := PyData.keyHash P (Str.ofString "help"), key := .str (Str.ofString "help") 159, val := .builtin "builtins.help#opaque" }] 159 }
noncomputable def o42 (P : Params) : Obj := { cls := .type "dict", data := .dict #[{ hash := PyData.keyHash P (Str.ofString "builtins"), key := .str (Str.ofString "builtins") 162, val := .ref 4 }, { hash := PyData.keyHash P (Str.ofString "__main__"), key := .str (Str.ofString "__main__") 163, val := .ref 5 }, { hash := PyData.keyHash P (Str.ofString "_sre"), key := .str (Str.ofString "_sre") 244, val := .ref 12 }] 3 }
noncomputable def o43 (P : Params) : Obj := { cls := .none, data := .dict #[{ hash := PyData.keyHash P (Str.ofString "\x69mport.loaded._sre"), key := .str (Str.ofString "\x69mport.loaded._sre") 183, val := .bool true }, { hash := PyData.keyHash P (Str.ofString "class._frozen_importlib.BuiltinImporter"), key := .str (Str.ofString "class._frozen_importlib.BuiltinImporter") 185, val := .ref 14 }, { hash := PyData.keyHash P (Str.ofString "watched.\x69mport"), key := .str (Str.ofString "watched.\x69mport") 206, val := .ref 18 }, { hash := PyData.keyHash P (Str.ofString "class._frozen_importlib.ModuleSpec"), key := .str (Str.ofString "class._frozen_importlib.ModuleSpec") 216, val := .ref 22 }, { hash := PyData.keyHash P (Str.ofString "sys.modules.booked-epoch"), key := .str (Str.ofString "sys.modules.booked-epoch") 245, val := .int 3 0 }, { hash := PyData.keyHash P (Str.ofString "\x69mport.later-laid._sre"), key := .str (Str.ofString "\x69mport.later-laid._sre") 270, val := .bool true }, { hash := PyData.keyHash P (Str.ofString "watched.library"), key := .str (Str.ofString "watched.library") 272, val := .ref 27 }, { hash := PyData.keyHash P (Str.ofString "watched.library-objects"), key := .str (Str.ofString "watched.library-objects") 0, val := .str (Str.ofString "\x0c") 0 }, { hash := PyData.keyHash P (Str.ofString "watched.library-deep._sre"), key := .str (Str.ofString "watched.library-deep._sre") 273, val := .str (Str.ofString "\x04\x00\x00\x0b\x04\x00\x00\x0b\x04\x00\x00\x03\x04\x00\x00\x0b\x08\x04dict\x02") 0 }] 9 }
noncomputable def o44 (P : Params) : Obj := { cls := .type "dict", data := .dict #[{ hash := PyData.keyHash P (Str.ofString "__name__"), key := .str (Str.ofString "__name__") 165, val := .str (Str.ofString "__main__") 164 }, { hash := PyData.keyHash P (Str.ofString "__doc__"), key := .str (Str.ofString "__doc__") 166, val := .none }, { hash := PyData.keyHash P (Str.ofString "__package__"), key := .str (Str.ofString "__package__") 167, val := .none }, { hash := PyData.keyHash P (Str.ofString "__loader__"), key := .str (Str.ofString "__loader__") 168, val := .builtin "__main__.__loader__#opaque" }, { hash := PyData.keyHash P (Str.ofString "__spec__"), key := .str (Str.ofString "__spec__") 169, val := .none }, { hash := PyData.keyHash P (Str.ofString "__annotations__"), key := .str (Str.ofString "__annotations__") 170, val := .ref 6 }, { hash := PyData.keyHash P (Str.ofString "__builtins__"), key := .str (Str.ofString "__builtins__") 171, val := .ref 4 }, { hash := PyData.keyHash P (Str.ofString "__file__"), key := .str (Str.ofString "__file__") 173, val := .str (Str.ofString "/claim/cut.py") 172 }, { hash := PyData.keyHash P (Str.ofString "__cached__"), key := .str (Str.ofString "__cached__") 174, val := .none }, { hash := PyData.keyHash P (Str.ofString "_sre"), key := .str (Str.ofString "_sre") 275, val := .ref 12 }] 10 }
noncomputable def o45 (P : Params) : Obj := { cls := .type "module", dict := some 0 }
noncomputable def o46 (P : Params) : Obj := { cls := .type "module", dict := some 3 }
noncomputable def o47 (P : Params) : Obj := { cls := .type "dict", data := .dict #[] }
noncomputable def o48 (P : Params) : Obj := { cls := .type "tuple", data := .seq #[] }
noncomputable def o49 (P : Params) : Obj := { cls := .none, data := .fields #[] }
noncomputable def o50 (P : Params) : Obj := { cls := .type "code", data := .fields #[.str (Str.ofString "<module>") 176, .str (Str.ofString "<module>") 177, .str (Str.ofString "/claim/cut.py") 178, .int 1 0, .int 0 0, .int 0 0, .int 0 0, .int 0 0, .ref 7, .bool false, .int 175 0, .ref 8, .none, .none, .none, .none, .int 179 0, .int 1 0, .str (Str.ofString "/claim/cut.py") 180] }
noncomputable def o51 (P : Params) : Obj := { cls := .type "frame", slots := #[some (.ref 9), some (.ref 3), some (.ref 3), none, some (.str (Str.ofString "__main__") 164), none, some (.ref 0)] }
noncomputable def o52 (P : Params) : Obj := { cls := .type "dict", data := .dict #[{ hash := PyData.keyHash P (Str.ofString "__name__"), key := .str (Str.ofString "__name__") 247, val := .str (Str.ofString "_sre") 246 }, { hash := PyData.keyHash P (Str.ofString "__doc__"), key := .str (Str.ofString "__doc__") 248, val := .none }, { hash := PyData.keyHash P (Str.ofString "__package__"), key := .str (Str.ofString "__package__") 250, val := .str (Str.ofString "") 249 }, { hash := PyData.keyHash P (Str.ofString "__loader__"), key := .str (Str.ofString "__loader__") 251, val := .builtin "off-the-table:_sre.__loader__:shared#opaque" }, { hash := PyData.keyHash P (Str.ofString "__spec__"), key := .str (Str.ofString "__spec__") 252, val := .builtin "off-the-table:_sre.__spec__:shared#opaque" }, { hash := PyData.keyHash P (Str.ofString "compile"), key := .str (Str.ofString "compile") 253, val := .builtin "_sre.compile" }, { hash := PyData.keyHash P (Str.ofString "template"), key := .str (Str.ofString "template") 254, val := .builtin "off-the-table:_sre.template:shared#opaque" }, { hash := PyData.keyHash P (Str.ofString "getcodesize"), key := .str (Str.ofString "getcodesize") 255, val := .builtin "off-the-table:_sre.getcodesize:shared#opaque" }, { hash := PyData.keyHash P (Str.ofString "ascii_iscased"), key := .str (Str.ofString "ascii_iscased") 256, val := .builtin "off-the-table:_sre.ascii_iscased:shared#opaque" }, { hash := PyData.keyHash P (Str.ofString "unicode_iscased"), key := .str (Str.ofString "unicode_iscased") 257, val := .builtin "off-the-table:_sre.unicode_iscased:shared#opaque" }, { hash := PyData.keyHash P (Str.ofString "ascii_tolower"), key := .str (Str.ofString "ascii_tolower") 258, val := .builtin "off-the-table:_sre.ascii_tolower:shared#opaque" }, { hash := PyData.keyHash P (Str.ofString "unicode_tolower"), key := .str (Str.ofString "unicode_tolower") 259, val := .builtin "off-the-table:_sre.unicode_tolower:shared#opaque" }, { hash := PyData.keyHash P (Str.ofString "MAGIC"), key := .str (Str.ofString "MAGIC") 261, val := .int 20230612 260 }, { hash := PyData.keyHash P (Str.ofString "CODESIZE"), key := .str (Str.ofString "CODESIZE") 263, val := .int 4 262 }, { hash := PyData.keyHash P (Str.ofString "MAXREPEAT"), key := .str (Str.ofString "MAXREPEAT") 265, val := .int 4294967295 264 }, { hash := PyData.keyHash P (Str.ofString "MAXGROUPS"), key := .str (Str.ofString "MAXGROUPS") 267, val := .int 1073741823 266 }, { hash := PyData.keyHash P (Str.ofString "copyright"), key := .str (Str.ofString "copyright") 269, val := .str (Str.ofString " SRE 2.2.2 Copyright (c) 1997-2002 by Secret Labs AB ") 268 }] 17 }
noncomputable def o53 (P : Params) : Obj := { cls := .type "module", dict := some 11 }
noncomputable def o54 (P : Params) : Obj := { cls := .type "dict", data := .dict #[{ hash := PyData.keyHash P (Str.ofString "__module__"), key := .str (Str.ofString "__module__") 189, val := .str (Str.ofString "_frozen_importlib") 186 }, { hash := PyData.keyHash P (Str.ofString "__firstlineno__"), key := .str (Str.ofString "__firstlineno__") 190, val := .int 971 187 }, { hash := PyData.keyHash P (Str.ofString "__doc__"), key := .str (Str.ofString "__doc__") 191, val := .builtin "_frozen_importlib.BuiltinImporter.__doc__:str#opaque" }, { hash := PyData.keyHash P (Str.ofString "_ORIGIN"), key := .str (Str.ofString "_ORIGIN") 192, val := .str (Str.ofString "built-in") 188 }, { hash := PyData.keyHash P (Str.ofString "find_spec"), key := .str (Str.ofString "find_spec") 193, val := .builtin "_frozen_importlib.BuiltinImporter.find_spec#opaque" }, { hash := PyData.keyHash P (Str.ofString "create_module"), key := .str (Str.ofString "create_module") 194, val := .builtin "_frozen_importlib.BuiltinImporter.create_module#opaque" }, { hash := PyData.keyHash P (Str.ofString "exec_module"), key := .str (Str.ofString "exec_module") 195, val := .builtin "_frozen_importlib.BuiltinImporter.exec_module#opaque" }, { hash := PyData.keyHash P (Str.ofString "get_code"), key := .str (Str.ofString "get_code") 196, val := .builtin "_frozen_importlib.BuiltinImporter.get_code#opaque" }, { hash := PyData.keyHash P (Str.ofString "get_source"), key := .str (Str.ofString "get_source") 197, val := .builtin "_frozen_importlib.BuiltinImporter.get_source#opaque" }, { hash := PyData.keyHash P (Str.ofString "is_package"), key := .str (Str.ofString "is_package") 198, val := .builtin "_frozen_importlib.BuiltinImporter.is_package#opaque" }, { hash := PyData.keyHash P (Str.ofString "load_module"), key := .str (Str.ofString "load_module") 199, val := .builtin "_frozen_importlib.BuiltinImporter.load_module#opaque" }, { hash := PyData.keyHash P (Str.ofString "__static_attributes__"), key := .str (Str.ofString "__static_attributes__") 200, val := .ref 15 }, { hash := PyData.keyHash P (Str.ofString "__dict__"), key := .str (Str.ofString "__dict__") 202, val := .ref 16 }, { hash := PyData.keyHash P (Str.ofString "__weakref__"), key := .str (Str.ofString "__weakref__") 204, val := .ref 17 }] 14 }
noncomputable def o55 (P : Params) : Obj := { cls := .type "type", data := .cls { name := Str.ofString "BuiltinImporter", bases := [.type "object"], mro := [.ref 14, .type "object"], ns := 13, qualname := Str.ofString "BuiltinImporter" } }
noncomputable def o56 (P : Params) : Obj := { cls := .type "tuple", data := .seq #[] }
noncomputable def o57 (P : Params) : Obj := { cls := .type "getset_descriptor", data := .fields #[.str (Str.ofString "__dict__") 201, .ref 14, .builtin "function.__dict__", .builtin "function.__dict__#set"] }
noncomputable def o58 (P : Params) : Obj := { cls := .type "getset_descriptor", data := .fields #[.str (Str.ofString "__weakref__") 203, .ref 14, .builtin "ExceptionGroup.__weakref__", .none] }
noncomputable def o59 (P : Params) : Obj := { cls := .none, data := .seq #[.int 13 0, .str (({ cps := #[6, 189, 10, 95, 95, 109, 111, 100, 117, 108, 101, 95, 95, 6, 186, 17, 95, 102, 114, 111, 122, 101, 110, 95, 105, 109, 112, 111, 114, 116, 108, 105, 98, 6, 190, 15, 95, 95, 102, 105, 114, 115, 116, 108, 105, 110, 101, 110, 111, 95, 95, 4, 187, 0, 971, 6, 191, 7, 95, 95, 100, 111, 99, 95, 95, 9, 52, 95, 102, 114, 111, 122, 101, 110, 95, 105, 109, 112, 111, 114, 116, 108, 105, 98, 46, 66, 117, 105, 108, 116, 105, 110, 73, 109, 112, 111, 114, 116, 101, 114, 46, 95, 95, 100, 111, 99, 95, 95, 58, 115, 116, 114, 35, 111, 112, 97, 113, 117, 101, 6, 192, 7, 95, 79, 82, 73, 71, 73, 78, 6, 188, 8, 98, 117, 105, 108, 116, 45, 105, 110, 6, 193, 9, 102, 105, 110, 100, 95, 115, 112, 101, 99, 9, 50, 95, 102, 114, 111, 122, 101, 110, 95, 105, 109, 112, 111, 114, 116, 108, 105, 98, 46, 66, 117, 105, 108, 116, 105, 110, 73, 109, 112, 111, 114, 116, 101, 114, 46, 102, 105, 110, 100, 95, 115, 112, 101, 99, 35, 111, 112, 97, 113, 117, 101, 6, 194, 13, 99, 114, 101, 97, 116, 101, 95, 109, 111, 100, 117, 108, 101, 9, 54, 95, 102, 114, 111, 122, 101, 110, 95, 105, 109, 112, 111, 114, 116, 108, 105, 98, 46, 66, 117, 105, 108, 116, 105, 110, 73, 109, 112, 111, 114, 116, 101, 114, 46, 99, 114, 101, 97, 116, 101, 95, 109, 111, 100, 117, 108, 101, 35, 111, 112, 97, 113, 117, 101, 6, 195, 11, 101, 120, 101, 99, 95, 109, 111, 100, 117, 108, 101, 9, 52, 95, 102, 114, 111, 122, 101, 110, 95, 105, 109, 112, 111, 114, 116, 108, 105, 98, 46, 66, 117, 105, 108, 116, 105, 110, 73, 109, 112, 111, 114, 116, 101, 114, 46, 101, 120, 101, 99, 95, 109, 111, 100, 117, 108, 101, 35, 111, 112, 97, 113, 117, 101, 6, 196, 8, 103, 101, 116, 95, 99, 111, 100, 101, 9, 49, 95, 102, 114, 111, 122, 101, 110, 95, 105, 109, 112, 111, 114, 116, 108, 105, 98, 46, 66, 117, 105, 108, 116, 105, 110, 73, 109, 112, 111, 114, 116, 101, 114, 46, 103, 101, 116, 95, 99, 111, 100, 101, 35, 111, 112, 97, 113, 117, 101, 6, 197, 10, 103, 101, 116, 95, 115, 111, 117, 114, 99, 101, 9, 51, 95, 102, 114, 111, 122, 101, 110, 95, 105, 109, 112, 111, 114, 116, 108, 105, 98, 46, 66, 117, 105, 108, 116, 105, 110, 73, 109, 112, 111, 114, 116, 101, 114, 46, 103, 101, 116, 95, 115, 111, 117, 114, 99, 101, 35, 111, 112, 97, 113, 117, 101, 6, 198, 10, 105, 115, 95, 112, 97, 99, 107, 97, 103, 101, 9, 51, 95, 102, 114, 111, 122, 101, 110, 95, 105, 109, 112, 111, 114, 116, 108, 105, 98, 46, 66, 117, 105, 108, 116, 105, 110, 73, 109, 112, 111, 114, 116, 101, 114, 46, 105, 115, 95, 112, 97, 99, 107, 97, 103, 101, 35, 111, 112, 97, 113, 117, 101, 6, 199, 11, 108, 111, 97, 100, 95, 109, 111, 100, 117, 108, 101, 9, 52, 95, 102, 114, 111, 122, 101, 110, 95, 105, 109, 112, 111, 114, 116, 108, 105, 98, 46, 66, 117, 105, 108, 116, 105, 110, 73, 109, 112, 111, 114, 116, 101, 114, 46, 108, 111, 97, 100, 95, 109, 111, 100, 117, 108, 101, 35, 111, 112, 97, 113, 117, 101, 6, 200, 21, 95, 95, 115, 116, 97, 116, 105, 99, 95, 97, 116, 116, 114, 105, 98, 117, 116, 101, 115, 95, 95, 4, 0, 0, 15, 6, 202, 8, 95, 95, 100, 105, 99, 116, 95, 95, 4, 0, 0, 16, 6, 204, 11, 95, 95, 119, 101, 97, 107, 114, 101, 102, 95, 95, 4, 0, 0, 17] } : Str)) 0, .bool true, .bool true, .str (Str.ofString "") 205, .int 21 0, .str (({ cps := #[6, 227, 10, 95, 95, 109, 111, 100, 117, 108, 101, 95, 95, 6, 217, 17, 95, 102, 114, 111, 122, 101, 110, 95, 105, 109, 112, 111, 114, 116, 108, 105, 98, 6, 228, 15, 95, 95, 102, 105, 114, 115, 116, 108, 105, 110, 101, 110, 111, 95, 95, 4, 218, 0, 562, 6, 229, 7, 95, 95, 100, 111, 99, 95, 95, 9, 47, 95, 102, 114, 111, 122, 101, 110, 95, 105, 109, 112, 111, 114, 116, 108, 105, 98, 46, 77, 111, 100, 117, 108, 101, 83, 112, 101, 99, 46, 95, 95, 100, 111, 99, 95, 95, 58, 115, 116, 114, 35, 111, 112, 97, 113, 117, 101, 6, 230, 8, 95, 95, 105, 110, 105, 116, 95, 95, 9, 44, 95, 102, 114, 111, 122, 101, 110, 95, 105, 109, 112, 111, 114, 116, 108, 105, 98, 46, 77, 111, 100, 117, 108, 101, 83, 112, 101, 99, 46, 95, 95, 105, 110, 105, 116, 95, 95, 35, 111, 112, 97, 113, 117, 101, 6, 231, 8, 95, 95, 114, 101, 112, 114, 95, 95, 9, 44, 95, 102, 114, 111, 122, 101, 110, 95, 105, 109, 112, 111, 114, 116, 108, 105, 98, 46, 77, 111, 100, 117, 108, 101, 83, 112, 101, 99, 46, 95, 95, 114, 101, 112, 114, 95, 95, 35, 111, 112, 97, 113, 117, 101, 6, 232, 6, 95, 95, 101, 113, 95, 95, 9, 42, 95, 102, 114, 111, 122, 101, 110, 95, 105, 109, 112, 111, 114, 116, 108, 105, 98, 46, 77, 111, 100, 117, 108, 101, 83, 112, 101, 99, 46, 95, 95, 101, 113, 95, 95, 35, 111, 112, 97, 113, 117, 101, 6, 233, 6, 99, 97, 99, 104, 101, 100, 9, 42, 95, 102, 114, 111, 122, 101, 110, 95, 105, 109, 112, 111, 114, 116, 108, 105, 98, 46, 77, 111, 100, 117, 108, 101, 83, 112, 101, 99, 46, 99, 97, 99, 104, 101, 100, 35, 111, 112, 97, 113, 117, 101, 6, 234, 6, 112, 97, 114, 101, 110, 116, 9, 42, 95, 102, 114, 111, 122, 101, 110, 95, 105, 109, 112, 111, 114, 116, 108, 105, 98, 46, 77, 111, 100, 117, 108, 101, 83, 112, 101, 99, 46, 112, 97, 114, 101, 110, 116, 35, 111, 112, 97, 113, 117, 101, 6, 235, 12, 104, 97, 115, 95, 108, 111, 99, 97, 116, 105, 111, 110, 9, 48, 95, 102, 114, 111, 122, 101, 110, 95, 105, 109, 112, 111, 114, 116, 108, 105, 98, 46, 77, 111, 100, 117, 108, 101, 83, 112, 101, 99, 46, 104, 97, 115, 95, 108, 111, 99, 97, 116, 105, 111, 110, 35, 111, 112, 97, 113, 117, 101, 6, 236, 21, 95, 95, 115, 116, 97, 116, 105, 99, 95, 97, 116, 116, 114, 105, 98, 117, 116, 101, 115, 95, 95, 4, 0, 0, 23, 6, 238, 8, 95, 95, 100, 105, 99, 116, 95, 95, 4, 0, 0, 24, 6, 240, 11, 95, 95, 119, 101, 97, 107, 114, 101, 102, 95, 95, 4, 0, 0, 25, 6, 241, 8, 95, 95, 104, 97, 115, 104, 95, 95, 0] } : Str)) 0, .bool true, .bool true, .str (Str.ofString "") 242] 1 }
noncomputable def o60 (P : Params) : Obj := { cls := .type "list", data := .seq #[] }
noncomputable def o61 (P : Params) : Obj := { cls := .type "dict", data := .dict #[{ hash := PyData.keyHash P (Str.ofString "name"), key := .str (Str.ofString "name") 208, val := .str (Str.ofString "_sre") 207 }, { hash := PyData.keyHash P (Str.ofString "loader"), key := .str (Str.ofString "loader") 209, val := .ref 14 }, { hash := PyData.keyHash P (Str.ofString "origin"), key := .str (Str.ofString "origin") 210, val := .str (Str.ofString "built-in") 184 }, { hash := PyData.keyHash P (Str.ofString "loader_state"), key := .str (Str.ofString "loader_state") 211, val := .none }, { hash := PyData.keyHash P (Str.ofString "submodule_search_locations"), key := .str (Str.ofString "submodule_search_locations") 212, val := .none }, { hash := PyData.keyHash P (Str.ofString "_uninitialized_submodules"), key := .str (Str.ofString "_uninitialized_submodules") 213, val := .ref 19 }, { hash := PyData.keyHash P (Str.ofString "_set_fileattr"), key := .str (Str.ofString "_set_fileattr") 214, val := .bool false }, { hash := PyData.keyHash P (Str.ofString "_cached"), key := .str (Str.ofString "_cached") 215, val := .none }, { hash := PyData.keyHash P (Str.ofString "_initializing"), key := .str (Str.ofString "_initializing") 243, val := .bool false }] 9 }
noncomputable def o62 (P : Params) : Obj := { cls := .type "dict", data := .dict #[{ hash := PyData.keyHash P (Str.ofString "__module__"), key := .str (Str.ofString "__module__") 227, val := .str (Str.ofString "_frozen_importlib") 217 }, { hash := PyData.keyHash P (Str.ofString "__firstlineno__"), key := .str (Str.ofString "__firstlineno__") 228, val := .int 562 218 }, { hash := PyData.keyHash P (Str.ofString "__doc__"), key := .str (Str.ofString "__doc__") 229, val := .builtin "_frozen_importlib.ModuleSpec.__doc__:str#opaque" }, { hash := PyData.keyHash P (Str.ofString "__init__"), key := .str (Str.ofString "__init__") 230, val := .builtin "_frozen_importlib.ModuleSpec.__init__#opaque" }, { hash := PyData.keyHash P (Str.ofString "__repr__"), key := .str (Str.ofString "__repr__") 231, val := .builtin "_frozen_importlib.ModuleSpec.__repr__#opaque" }, { hash := PyData.keyHash P (Str.ofString "__eq__"), key := .str (Str.ofString "__eq__") 232, val := .builtin "_frozen_importlib.ModuleSpec.__eq__#opaque" }, { hash := PyData.keyHash P (Str.ofString "cached"), key := .str (Str.ofString "cached") 233, val := .builtin "_frozen_importlib.ModuleSpec.cached#opaque" }, { hash := PyData.keyHash P (Str.ofString "parent"), key := .str (Str.ofString "parent") 234, val := .builtin "_frozen_importlib.ModuleSpec.parent#opaque" }, { hash := PyData.keyHash P (Str.ofString "has_location"), key := .str (Str.ofString "has_location") 235, val := .builtin "_frozen_importlib.ModuleSpec.has_location#opaque" }, { hash := PyData.keyHash P (Str.ofString "__static_attributes__"), key := .str (Str.ofString "__static_attributes__") 236, val := .ref 23 }, { hash := PyData.keyHash P (Str.ofString "__dict__"), key := .str (Str.ofString "__dict__") 238, val := .ref 24 }, { hash := PyData.keyHash P (Str.ofString "__weakref__"), key := .str (Str.ofString "__weakref__") 240, val := .ref 25 }, { hash := PyData.keyHash P (Str.ofString "__hash__"), key := .str (Str.ofString "__hash__") 241, val := .none }] 13 }
noncomputable def o63 (P : Params) : Obj := { cls := .type "type", data := .cls { name := Str.ofString "ModuleSpec", bases := [.type "object"], mro := [.ref 22, .type "object"], ns := 21, qualname := Str.ofString "ModuleSpec" } }
noncomputable def o64 (P : Params) : Obj := { cls := .type "tuple", data := .seq #[.str (Str.ofString "_cached") 219, .str (Str.ofString "_set_fileattr") 220, .str (Str.ofString "_uninitialized_submodules") 221, .str (Str.ofString "loader") 222, .str (Str.ofString "loader_state") 223, .str (Str.ofString "name") 224, .str (Str.ofString "origin") 225, .str (Str.ofString "submodule_search_locations") 226] }
noncomputable def o65 (P : Params) : Obj := { cls := .type "getset_descriptor", data := .fields #[.str (Str.ofString "__dict__") 237, .ref 22, .builtin "function.__dict__", .builtin "function.__dict__#set"] }
noncomputable def o66 (P : Params) : Obj := { cls := .type "getset_descriptor", data := .fields #[.str (Str.ofString "__weakref__") 239, .ref 22, .builtin "ExceptionGroup.__weakref__", .none] }
noncomputable def o67 (P : Params) : Obj := { cls := .ref 22, dict := some 20 }
noncomputable def o68 (P : Params) : Obj := { cls := .none, data := .seq #[.int 11 0, .str { cps := #[6, 247, 8, 95, 95, 110, 97, 109, 101, 95, 95, 6, 246, 4, 95, 115, 114, 101, 6, 248, 7, 95, 95, 100, 111, 99, 95, 95, 0, 6, 250, 11, 95, 95, 112, 97, 99, 107, 97, 103, 101, 95, 95, 6, 249, 0, 6, 251, 10, 95, 95, 108, 111, 97, 100, 101, 114, 95, 95, 4, 0, 0, 14, 6, 252, 8, 95, 95, 115, 112, 101, 99, 95, 95, 4, 0, 0, 26, 6, 253, 7, 99, 111, 109, 112, 105, 108, 101, 9, 12, 95, 115, 114, 101, 46, 99, 111, 109, 112, 105, 108, 101, 6, 254, 8, 116, 101, 109, 112, 108, 97, 116, 101, 9, 13, 95, 115, 114, 101, 46, 116, 101, 109, 112, 108, 97, 116, 101, 6, 255, 11, 103, 101, 116, 99, 111, 100, 101, 115, 105, 122, 101, 9, 16, 95, 115, 114, 101, 46, 103, 101, 116, 99, 111, 100, 101, 115, 105, 122, 101, 6, 256, 13, 97, 115, 99, 105, 105, 95, 105, 115, 99, 97, 115, 101, 100, 9, 18, 95, 115, 114, 101, 46, 97, 115, 99, 105, 105, 95, 105, 115, 99, 97, 115, 101, 100, 6, 257, 15, 117, 110, 105, 99, 111, 100, 101, 95, 105, 115, 99, 97, 115, 101, 100, 9, 20, 95, 115, 114, 101, 46, 117, 110, 105, 99, 111, 100, 101, 95, 105, 115, 99, 97, 115, 101, 100, 6, 258, 13, 97, 115, 99, 105, 105, 95, 116, 111, 108, 111, 119, 101, 114, 9, 18, 95, 115, 114, 101, 46, 97, 115, 99, 105, 105, 95, 116, 111, 108, 111, 119, 101, 114, 6, 259, 15, 117, 110, 105, 99, 111, 100, 101, 95, 116, 111, 108, 111, 119, 101, 114, 9, 20, 95, 115, 114, 101, 46, 117, 110, 105, 99, 111, 100, 101, 95, 116, 111, 108, 111, 119, 101, 114, 6, 261, 5, 77, 65, 71, 73, 67, 4, 260, 0, 20230612, 6, 263, 8, 67, 79, 68, 69, 83, 73, 90, 69, 4, 262, 0, 4, 6, 265, 9, 77, 65, 88, 82, 69, 80, 69, 65, 84, 4, 264, 0, 4294967295, 6, 267, 9, 77, 65, 88, 71, 82, 79, 85, 80, 83, 4, 266, 0, 1073741823, 6, 269, 9, 99, 111, 112, 121, 114, 105, 103, 104, 116, 6, 268, 53, 32, 83, 82, 69, 32, 50, 46, 50, 46, 50, 32, 67, 111, 112, 121, 114, 105, 103, 104, 116, 32, 40, 99, 41, 32, 49, 57, 57, 55, 45, 50, 48, 48, 50, 32, 98, 121, 32, 83, 101, 99, 114, 101, 116, 32, 76, 97, 98, 115, 32, 65, 66, 32] } 0, .bool true, .bool false, .str (Str.ofString "_sre") 271] }
noncomputable def o69 (P : Params) : Obj := { cls := .type "tuple", data := .seq #[] }
noncomputable def o70 (P : Params) : Obj := { cls := .none, data := .fields #[] }
noncomputable def o71 (P : Params) : Obj := { cls := .type "code", data := .fields #[.str (Str.ofString "<module>") 277, .str (Str.ofString "<module>") 278, .str (Str.ofString "/claim/cut.py") 279, .int 1 0, .int 0 0, .int 0 0, .int 0 0, .int 0 0, .ref 28, .bool false, .int 276 0, .ref 29, .none, .none, .none, .none, .int 280 0, .int 1 0, .str (Str.ofString "/claim/cut.py") 281] }
noncomputable def o72 (P : Params) : Obj := { cls := .type "frame", slots := #[some (.ref 30), some (.ref 3), some (.ref 3), none, some (.str (Str.ofString "__main__") 164), none, some (.ref 0)] }
noncomputable def o75 (P : Params) : Obj := { cls := .type "dict", data := .dict #[{ hash := PyData.keyHash P (Str.ofString "__name__"), key := .str (Str.ofString "__name__") 165, val := .str (Str.ofString "re") 407 }, { hash := PyData.keyHash P (Str.ofString "__doc__"), key := .str (Str.ofString "__doc__") 166, val := .none }, { hash := PyData.keyHash P (Str.ofString "__package__"), key := .str (Str.ofString "__package__") 167, val := .none }, { hash := PyData.keyHash P (Str.ofString "__loader__"), key := .str (Str.ofString "__loader__") 168, val := .builtin "__main__.__loader__#opaque" }, { hash := PyData.keyHash P (Str.ofString "__spec__"), key := .str (Str.ofString "__spec__") 169, val := .none }, { hash := PyData.keyHash P (Str.ofString "__annotations__"), key := .str (Str.ofString "__annotations__") 170, val := .ref 6 }, { hash := PyData.keyHash P (Str.ofString "__builtins__"), key := .str (Str.ofString "__builtins__") 171, val := .ref 4 }, { hash := PyData.keyHash P (Str.ofString "__file__"), key := .str (Str.ofString "__file__") 173, val := .str (Str.ofString "/claim/cut.py") 172 }, { hash := PyData.keyHash P (Str.ofString "__cached__"), key := .str (Str.ofString "__cached__") 174, val := .none }, { hash := PyData.keyHash P (Str.ofString "_sre"), key := .str (Str.ofString "_sre") 275, val := .ref 12 }, { hash := PyData.keyHash P (Str.ofString "twin_re_1_smtplib"), key := .str (Str.ofString "twin_re_1_smtplib") 299, val := .ref 36 }, { hash := PyData.keyHash P (Str.ofString "_twin_re_2"), key := .str (Str.ofString "_twin_re_2") 341, val := .ref 41 }, { hash := PyData.keyHash P (Str.ofString "CRLF"), key := .str (Str.ofString "CRLF") 343, val := .str (Str.ofString "\x0d\n") 342 }, { hash := PyData.keyHash P (Str.ofString "quotedata"), key := .str (Str.ofString "quotedata") 350, val := .ref 48 }, { hash := PyData.keyHash P (Str.ofString "_fix_eols"), key := .str (Str.ofString "_fix_eols") 357, val := .ref 55 }, { hash := PyData.keyHash P (Str.ofString "twin_re_1_fnmatch"), key := .str (Str.ofString "twin_re_1_fnmatch") 397, val := .ref 60 }, { hash := PyData.keyHash P (Str.ofString "translate"), key := .str (Str.ofString "translate") 406, val := .ref 67 }] 17 }
noncomputable def o76 (P : Params) : Obj := { cls := .none, data := .fields #[.int 6 0, .int 0 0, .ref 47, .int 8 0, .int 0 0, .ref 54, .int 12 0, .int 0 0, .ref 66] }
noncomputable def o77 (P : Params) : Obj := { cls := .type "list", data := .seq #[.int 14 287, .int 4 288, .int 0 289, .int 1 290, .int 1 291, .int 6 292, .int 1 293, .int 16 294, .int 46 295, .int 1 296] }
noncomputable def o78 (P : Params) : Obj := { cls := .type "dict", data := .dict #[] }
noncomputable def o79 (P : Params) : Obj := { cls := .type "tuple", data := .seq #[.none] }
noncomputable def o80 (P : Params) : Obj := { cls := .type "tuple", data := .seq #[.int 14 0, .int 4 0, .int 0 0, .int 1 0, .int 1 0, .int 6 0, .int 1 0, .int 16 0, .int 46 0, .int 1 0] }
noncomputable def o81 (P : Params) : Obj := { cls := .type "re.Pattern", data := .fields #[.str (Str.ofString "(?m)^\\.") 285, .int 40 298, .int 0 0, .none, .none, .ref 35, .int 0 0] }
noncomputable def o82 (P : Params) : Obj := { cls := .type "list", data := .seq #[.int 14 303, .int 9 304, .int 4 305, .int 1 306, .int 2 307, .int 16 308, .int 10 309, .int 16 310, .int 13 311, .int 0 312, .int 7 313, .int 7 314, .int 16 315, .int 13 316, .int 16 317, .int 10 318, .int 15 319, .int 18 320, .int 5 321, .int 16 322, .int 10 323, .int 15 324, .int 13 325, .int 11 326, .int 16 327, .int 13 328, .int 5 329, .int 5 330, .int 0 331, .int 16 332, .int 10 333, .int 1 334, .int 15 335, .int 2 336, .int 0 337, .int 1 338] }
noncomputable def o83 (P : Params) : Obj := { cls := .type "dict", data := .dict #[] }
noncomputable def o84 (P : Params) : Obj := { cls := .type "tuple", data := .seq #[.none] }
noncomputable def o85 (P : Params) : Obj := { cls := .type "tuple", data := .seq #[.int 14 0, .int 9 0, .int 4 0, .int 1 0, .int 2 0, .int 16 0, .int 10 0, .int 16 0, .int 13 0, .int 0 0, .int 7 0, .int 7 0, .int 16 0, .int 13 0, .int 16 0, .int 10 0, .int 15 0, .int 18 0, .int 5 0, .int 16 0, .int 10 0, .int 15 0, .int 13 0, .int 11 0, .int 16 0, .int 13 0, .int 5 0, .int 5 0, .int 0 0, .int 16 0, .int 10 0, .int 1 0, .int 15 0, .int 2 0, .int 0 0, .int 1 0] }
noncomputable def o86 (P : Params) : Obj := { cls := .type "re.Pattern", data := .fields #[.str (Str.ofString "(?:\\r\\n|\\n|\\r(?!\\n))") 301, .int 32 340, .int 0 0, .none, .none, .ref 40, .int 0 0] }
noncomputable def o87 (P : Params) : Obj := { cls := .type "tuple", data := .seq #[] }
noncomputable def o88 (P : Params) : Obj := { cls := .none, data := .fields #[] }
noncomputable def o89 (P : Params) : Obj := { cls := .type "tuple", data := .seq #[.str (Str.ofString "data") 347] }
noncomputable def o90 (P : Params) : Obj := { cls := .type "tuple", data := .seq #[] }
noncomputable def o91 (P : Params) : Obj := { cls := .none, data := .func { name := Str.ofString "quotedata", qualname := Str.ofString "quotedata", params := paramsAt P1 5, body := .stmts (bodyAt P1 5), scope := scopeAt P1 5, globals := 0, closure := [], defaults := .none, kwdefaults := .none } }
noncomputable def o92 (P : Params) : Obj := { cls := .type "code", data := .fields #[.str (Str.ofString "quotedata") 344, .str (Str.ofString "quotedata") 345, .str (Str.ofString "/claim/cut.py") 346, .int 6 0, .int 1 0, .int 0 0, .int 0 0, .int 3 0, .ref 42, .bool true, .int 276 0, .ref 43, .none, .ref 44, .ref 45, .ref 46, .int 348 0, .int 6 0, .str (Str.ofString "/claim/cut.py") 349] }
noncomputable def o93 (P : Params) : Obj := { cls := .type "function", data := .func { name := Str.ofString "quotedata", qualname := Str.ofString "quotedata", params := paramsAt P1 5, body := .stmts (bodyAt P1 5), scope := scopeAt P1 5, globals := 3, closure := [], defaults := .none, kwdefaults := .none, pyModule := .str (Str.ofString "cpy313.smtplib") 282, code := .ref 47 } }
noncomputable def o94 (P : Params) : Obj := { cls := .type "tuple", data := .seq #[] }
noncomputable def o95 (P : Params) : Obj := { cls := .none, data := .fields #[] }
noncomputable def o96 (P : Params) : Obj := { cls := .type "tuple", data := .seq #[.str (Str.ofString "data") 354] }
noncomputable def o97 (P : Params) : Obj := { cls := .type "tuple", data := .seq #[] }
noncomputable def o98 (P : Params) : Obj := { cls := .none, data := .func { name := Str.ofString "_fix_eols", qualname := Str.ofString "_fix_eols", params := paramsAt P1 6, body := .stmts (bodyAt P1 6), scope := scopeAt P1 6, globals := 0, closure := [], defaults := .none, kwdefaults := .none } }
noncomputable def o99 (P : Params) : Obj := { cls := .type "code", data := .fields #[.str (Str.ofString "_fix_eols") 351, .str (Str.ofString "_fix_eols") 352, .str (Str.ofString "/claim/cut.py") 353, .int 8 0, .int 1 0, .int 0 0, .int 0 0, .int 3 0, .ref 49, .bool true, .int 276 0, .ref 50, .none, .ref 51, .ref 52, .ref 53, .int 355 0, .int 8 0, .str (Str.ofString "/claim/cut.py") 356] }
noncomputable def o100 (P : Params) : Obj := { cls := .type "function", data := .func { name := Str.ofString "_fix_eols", qualname := Str.ofString "_fix_eols", params := paramsAt P1 6, body := .stmts (bodyAt P1 6), scope := scopeAt P1 6, globals := 3, closure := [], defaults := .none, kwdefaults := .none, pyModule := .str (Str.ofString "cpy313.smtplib") 282, code := .ref 54 } }
noncomputable def o101 (P : Params) : Obj := { cls := .type "list", data := .seq #[.int 14 363, .int 14 364, .int 4 365, .int 1 366, .int 1 367, .int 9 368, .int 0 369, .int 64 370, .int 0 371, .int 1342177280 372, .int 0 373, .int 0 374, .int 0 375, .int 0 376, .int 0 377, .int 17 378, .int 0 379, .int 13 380, .int 11 381, .int 9 382, .int 0 383, .int 64 384, .int 0 385, .int 1342177280 386, .int 0 387, .int 0 388, .int 0 389, .int 0 390, .int 0 391, .int 17 392, .int 1 393, .int 1 394] }
noncomputable def o102 (P : Params) : Obj := { cls := .type "dict", data := .dict #[] }
noncomputable def o103 (P : Params) : Obj := { cls := .type "tuple", data := .seq #[.none, .none] }
noncomputable def o104 (P : Params) : Obj := { cls := .type "tuple", data := .seq #[.int 14 0, .int 14 0, .int 4 0, .int 1 0, .int 1 0, .int 9 0, .int 0 0, .int 64 0, .int 0 0, .int 1342177280 0, .int 0 0, .int 0 0, .int 0 0, .int 0 0, .int 0 0, .int 17 0, .int 0 0, .int 13 0, .int 11 0, .int 9 0, .int 0 0, .int 64 0, .int 0 0, .int 1342177280 0, .int 0 0, .int 0 0, .int 0 0, .int 0 0, .int 0 0, .int 17 0, .int 1 0, .int 1 0] }
noncomputable def o105 (P : Params) : Obj := { cls := .type "re.Pattern", data := .fields #[.str (Str.ofString "([&~|])") 361, .int 32 396, .int 1 0, .none, .none, .ref 59, .int 0 0] }
noncomputable def o106 (P : Params) : Obj := { cls := .type "tuple", data := .seq #[] }
noncomputable def o107 (P : Params) : Obj := { cls := .none, data := .fields #[] }
noncomputable def o108 (P : Params) : Obj := { cls := .type "tuple", data := .seq #[.str (Str.ofString "pat") 401, .str (Str.ofString "STAR") 402, .str (Str.ofString "parts") 403] }
noncomputable def o109 (P : Params) : Obj := { cls := .type "tuple", data := .seq #[] }
noncomputable def o110 (P : Params) : Obj := { cls := .none, data := .func { name := Str.ofString "translate", qualname := Str.ofString "translate", params := paramsAt P1 9, body := .stmts (bodyAt P1 9), scope := scopeAt P1 9, globals := 0, closure := [], defaults := .none, kwdefaults := .none } }
noncomputable def o111 (P : Params) : Obj := { cls := .type "code", data := .fields #[.str (Str.ofString "translate") 398, .str (Str.ofString "translate") 399, .str (Str.ofString "/claim/cut.py") 400, .int 12 0, .int 1 0, .int 0 0, .int 0 0, .int 3 0, .ref 61, .bool true, .int 276 0, .ref 62, .none, .ref 63, .ref 64, .ref 65, .int 404 0, .int 12 0, .str (Str.ofString "/claim/cut.py") 405] }
noncomputable def o112 (P : Params) : Obj := { cls := .type "function", data := .func { name := Str.ofString "translate", qualname := Str.ofString "translate", params := paramsAt P1 9, body := .stmts (bodyAt P1 9), scope := scopeAt P1 9, globals := 3, closure := [], defaults := .none, kwdefaults := .none, pyModule := .str (Str.ofString "cpy313.fnmatch") 358, code := .ref 66 } }
noncomputable def o113 (P : Params) : Obj := { cls := .type "dict", data := .dict #[{ hash := PyData.keyHash P (Str.ofString "__name__"), key := .str (Str.ofString "__name__") 165, val := .str (Str.ofString "re") 407 }, { hash := PyData.keyHash P (Str.ofString "__doc__"), key := .str (Str.ofString "__doc__") 166, val := .none }, { hash := PyData.keyHash P (Str.ofString "__package__"), key := .str (Str.ofString "__package__") 167, val := .none }, { hash := PyData.keyHash P (Str.ofString "__loader__"), key := .str (Str.ofString "__loader__") 168, val := .builtin "__main__.__loader__#opaque" }, { hash := PyData.keyHash P (Str.ofString "__spec__"), key := .str (Str.ofString "__spec__") 169, val := .none }, { hash := PyData.keyHash P (Str.ofString "__annotations__"), key := .str (Str.ofString "__annotations__") 170, val := .ref 6 }, { hash := PyData.keyHash P (Str.ofString "__builtins__"), key := .str (Str.ofString "__builtins__") 171, val := .ref 4 }, { hash := PyData.keyHash P (Str.ofString "__file__"), key := .str (Str.ofString "__file__") 173, val := .str (Str.ofString "/claim/cut.py") 172 }, { hash := PyData.keyHash P (Str.ofString "__cached__"), key := .str (Str.ofString "__cached__") 174, val := .none }, { hash := PyData.keyHash P (Str.ofString "_sre"), key := .str (Str.ofString "_sre") 275, val := .ref 12 }, { hash := PyData.keyHash P (Str.ofString "twin_re_1_smtplib"), key := .str (Str.ofString "twin_re_1_smtplib") 299, val := .ref 36 }, { hash := PyData.keyHash P (Str.ofString "_twin_re_2"), key := .str (Str.ofString "_twin_re_2") 341, val := .ref 41 }, { hash := PyData.keyHash P (Str.ofString "CRLF"), key := .str (Str.ofString "CRLF") 343, val := .str (Str.ofString "\x0d\n") 342 }, { hash := PyData.keyHash P (Str.ofString "quotedata"), key := .str (Str.ofString "quotedata") 350, val := .ref 48 }, { hash := PyData.keyHash P (Str.ofString "_fix_eols"), key := .str (Str.ofString "_fix_eols") 357, val := .ref 55 }, { hash := PyData.keyHash P (Str.ofString "twin_re_1_fnmatch"), key := .str (Str.ofString "twin_re_1_fnmatch") 397, val := .ref 60 }, { hash := PyData.keyHash P (Str.ofString "translate"), key := .str (Str.ofString "translate") 406, val := .ref 67 }, { hash := PyData.keyHash P (Str.ofString "_special_chars_map"), key := .str (Str.ofString "_special_chars_map") 554, val := .ref 69 }] 18 }
noncomputable def o114 (P : Params) : Obj := { cls := .type "bytes_iterator", data := .fields #[.none, .int 24 0] }
noncomputable def o115 (P : Params) : Obj := { cls := .type "dict", data := .dict #[{ hash := 40, key := .int 40 410, val := .str (Str.ofString "\\(") 414 }, { hash := 41, key := .int 41 416, val := .str (Str.ofString "\\)") 420 }, { hash := 91, key := .int 91 422, val := .str (Str.ofString "\\[") 426 }, { hash := 93, key := .int 93 428, val := .str (Str.ofString "\\]") 432 }, { hash := 123, key := .int 123 434, val := .str (Str.ofString "\\{") 438 }, { hash := 125, key := .int 125 440, val := .str (Str.ofString "\\}") 444 }, { hash := 63, key := .int 63 446, val := .str (Str.ofString "\\?") 450 }, { hash := 42, key := .int 42 452, val := .str (Str.ofString "\\*") 456 }, { hash := 43, key := .int 43 458, val := .str (Str.ofString "\\+") 462 }, { hash := 45, key := .int 45 464, val := .str (Str.ofString "\\-") 468 }, { hash := 124, key := .int 124 470, val := .str (Str.ofString "\\|") 474 }, { hash := 94, key := .int 94 476, val := .str (Str.ofString "\\^") 480 }, { hash := 36, key := .int 36 482, val := .str (Str.ofString "\\$") 486 }, { hash := 92, key := .int 92 488, val := .str (Str.ofString "\\\\") 492 }, { hash := 46, key := .int 46 494, val := .str (Str.ofString "\\.") 498 }, { hash := 38, key := .int 38 500, val := .str (Str.ofString "\\&") 504 }, { hash := 126, key := .int 126 506, val := .str (Str.ofString "\\~") 510 }, { hash := 35, key := .int 35 512, val := .str (Str.ofString "\\#") 516 }, { hash := 32, key := .int 32 518, val := .str (Str.ofString "\\ ") 522 }, { hash := 9, key := .int 9 524, val := .str (Str.ofString "\\\t") 528 }, { hash := 10, key := .int 10 530, val := .str (Str.ofString "\\\n") 534 }, { hash := 13, key := .int 13 536, val := .str (Str.ofString "\\\x0d") 540 }, { hash := 11, key := .int 11 542, val := .str (Str.ofString "\\\x0b") 546 }, { hash := 12, key := .int 12 548, val := .str (Str.ofString "\\\x0c") 552 }] 24 }
noncomputable def o116 (P : Params) : Obj := { cls := .type "dict", data := .dict #[] 2 }
noncomputable def o117 (P : Params) : Obj := { cls := .type "tuple", data := .seq #[] }
noncomputable def o118 (P : Params) : Obj := { cls := .type "StopIteration", data := .fields #[.ref 71, .none, .none, .none, .bool false, .none] }
noncomputable def o157 (P : Params) : Obj := { cls := .type "dict", data := .dict #[{ hash := PyData.keyHash P (Str.ofString "__name__"), key := .str (Str.ofString "__name__") 165, val := .str (Str.ofString "law_in0038_02") 596 }, { hash := PyData.keyHash P (Str.ofString "__doc__"), key := .str (Str.ofString "__doc__") 166, val := .none }, { hash := PyData.keyHash P (Str.ofString "__package__"), key := .str (Str.ofString "__package__") 167, val := .none }, { hash := PyData.keyHash P (Str.ofString "__loader__"), key := .str (Str.ofString "__loader__") 168, val := .builtin "__main__.__loader__#opaque" }, { hash := PyData.keyHash P (Str.ofString "__spec__"), key := .str (Str.ofString "__spec__") 169, val := .none }, { hash := PyData.keyHash P (Str.ofString "__annotations__"), key := .str (Str.ofString "__annotations__") 170, val := .ref 6 }, { hash := PyData.keyHash P (Str.ofString "__builtins__"), key := .str (Str.ofString "__builtins__") 171, val := .ref 4 }, { hash := PyData.keyHash P (Str.ofString "__file__"), key := .str (Str.ofString "__file__") 173, val := .str (Str.ofString "/claim/cut.py") 172 }, { hash := PyData.keyHash P (Str.ofString "__cached__"), key := .str (Str.ofString "__cached__") 174, val := .none }, { hash := PyData.keyHash P (Str.ofString "_sre"), key := .str (Str.ofString "_sre") 275, val := .ref 12 }, { hash := PyData.keyHash P (Str.ofString "twin_re_1_smtplib"), key := .str (Str.ofString "twin_re_1_smtplib") 299, val := .ref 36 }, { hash := PyData.keyHash P (Str.ofString "_twin_re_2"), key := .str (Str.ofString "_twin_re_2") 341, val := .ref 41 }, { hash := PyData.keyHash P (Str.ofString "CRLF"), key := .str (Str.ofString "CRLF") 343, val := .str (Str.ofString "\x0d\n") 342 }, { hash := PyData.keyHash P (Str.ofString "quotedata"), key := .str (Str.ofString "quotedata") 350, val := .ref 48 }, { hash := PyData.keyHash P (Str.ofString "_fix_eols"), key := .str (Str.ofString "_fix_eols") 357, val := .ref 55 }, { hash := PyData.keyHash P (Str.ofString "twin_re_1_fnmatch"), key := .str (Str.ofString "twin_re_1_fnmatch") 397, val := .ref 60 }, { hash := PyData.keyHash P (Str.ofString "translate"), key := .str (Str.ofString "translate") 406, val := .ref 67 }, { hash := PyData.keyHash P (Str.ofString "_special_chars_map"), key := .str (Str.ofString "_special_chars_map") 554, val := .ref 69 }, { hash := PyData.keyHash P (Str.ofString "escape"), key := .str (Str.ofString "escape") 561, val := .ref 79 }, { hash := PyData.keyHash P (Str.ofString "_translate"), key := .str (Str.ofString "_translate") 582, val := .ref 86 }, { hash := PyData.keyHash P (Str.ofString "_join_translated_parts"), key := .str (Str.ofString "_join_translated_parts") 595, val := .ref 93 }, { hash := PyData.keyHash P (Str.ofString "_law_plan"), key := .str (Str.ofString "_law_plan") 616, val := .ref 100 }, { hash := PyData.keyHash P (Str.ofString "_law_rows"), key := .str (Str.ofString "_law_rows") 625, val := .ref 107 }, { hash := PyData.keyHash P (Str.ofString "_law_fits"), key := .str (Str.ofString "_law_fits") 631, val := .ref 112 }, { hash := PyData.keyHash P (Str.ofString "_law_due"), key := .str (Str.ofString "_law_due") 643, val := .ref 119 }, { hash := PyData.keyHash P (Str.ofString "_law_units"), key := .str (Str.ofString "_law_units") 655, val := .ref 126 }, { hash := PyData.keyHash P (Str.ofString "_law_through"), key := .str (Str.ofString "_law_through") 668, val := .ref 133 }, { hash := PyData.keyHash P (Str.ofString "_law_counts"), key := .str (Str.ofString "_law_counts") 678, val := .ref 140 }, { hash := PyData.keyHash P (Str.ofString "law"), key := .str (Str.ofString "law") 684, val := .ref 145 }] 29 }
noncomputable def o158 (P : Params) : Obj := { cls := .none, data := .fields #[.int 6 0, .int 0 0, .ref 47, .int 8 0, .int 0 0, .ref 54, .int 12 0, .int 0 0, .ref 66, .int 18 0, .int 0 0, .ref 78, .int 25 0, .int 0 0, .ref 85, .int 87 0, .int 0 0, .ref 92, .int 115 0, .int 0 0, .ref 99, .int 131 0, .int 0 0, .ref 106, .int 139 0, .int 0 0, .ref 111, .int 141 0, .int 0 0, .ref 118, .int 148 0, .int 0 0, .ref 125, .int 162 0, .int 0 0, .ref 132, .int 175 0, .int 0 0, .ref 139, .int 180 0, .int 0 0, .ref 144] }
noncomputable def o159 (P : Params) : Obj := { cls := .type "tuple", data := .seq #[] }
noncomputable def o160 (P : Params) : Obj := { cls := .none, data := .fields #[] }
noncomputable def o161 (P : Params) : Obj := { cls := .type "tuple", data := .seq #[.str (Str.ofString "pattern") 558] }
noncomputable def o162 (P : Params) : Obj := { cls := .type "tuple", data := .seq #[] }
noncomputable def o163 (P : Params) : Obj := { cls := .none, data := .func { name := Str.ofString "escape", qualname := Str.ofString "escape", params := paramsAt P1 12, body := .stmts (bodyAt P1 12), scope := scopeAt P1 12, globals := 0, closure := [], defaults := .none, kwdefaults := .none } }
noncomputable def o164 (P : Params) : Obj := { cls := .type "code", data := .fields #[.str (Str.ofString "escape") 555, .str (Str.ofString "escape") 556, .str (Str.ofString "/claim/cut.py") 557, .int 18 0, .int 1 0, .int 0 0, .int 0 0, .int 3 0, .ref 73, .bool true, .int 276 0, .ref 74, .none, .ref 75, .ref 76, .ref 77, .int 559 0, .int 18 0, .str (Str.ofString "/claim/cut.py") 560] }
noncomputable def o165 (P : Params) : Obj := { cls := .type "function", data := .func { name := Str.ofString "escape", qualname := Str.ofString "escape", params := paramsAt P1 12, body := .stmts (bodyAt P1 12), scope := scopeAt P1 12, globals := 3, closure := [], defaults := .none, kwdefaults := .none, pyModule := .str (Str.ofString "re") 407, code := .ref 78 } }
noncomputable def o166 (P : Params) : Obj := { cls := .type "tuple", data := .seq #[] }
noncomputable def o167 (P : Params) : Obj := { cls := .none, data := .fields #[] }
noncomputable def o168 (P : Params) : Obj := { cls := .type "tuple", data := .seq #[.str (Str.ofString "pat") 567, .str (Str.ofString "STAR") 568, .str (Str.ofString "QUESTION_MARK") 569, .str (Str.ofString "res") 570, .str (Str.ofString "add") 571, .str (Str.ofString "i") 572, .str (Str.ofString "n") 573, .str (Str.ofString "c") 574, .str (Str.ofString "j") 575, .str (Str.ofString "stuff") 576, .str (Str.ofString "chunks") 577, .str (Str.ofString "k") 578, .str (Str.ofString "chunk") 579] }
noncomputable def o169 (P : Params) : Obj := { cls := .type "tuple", data := .seq #[] }
noncomputable def o170 (P : Params) : Obj := { cls := .none, data := .func { name := Str.ofString "_translate", qualname := Str.ofString "_translate", params := paramsAt P1 14, body := .stmts (bodyAt P1 14), scope := scopeAt P1 14, globals := 0, closure := [], defaults := .none, kwdefaults := .none } }
noncomputable def o171 (P : Params) : Obj := { cls := .type "code", data := .fields #[.str (Str.ofString "_translate") 564, .str (Str.ofString "_translate") 565, .str (Str.ofString "/claim/cut.py") 566, .int 25 0, .int 3 0, .int 0 0, .int 0 0, .int 3 0, .ref 80, .bool true, .int 276 0, .ref 81, .none, .ref 82, .ref 83, .ref 84, .int 580 0, .int 25 0, .str (Str.ofString "/claim/cut.py") 581] }
noncomputable def o172 (P : Params) : Obj := { cls := .type "function", data := .func { name := Str.ofString "_translate", qualname := Str.ofString "_translate", params := paramsAt P1 14, body := .stmts (bodyAt P1 14), scope := scopeAt P1 14, globals := 3, closure := [], defaults := .none, kwdefaults := .none, pyModule := .str (Str.ofString "cpy313.fnmatch") 562, code := .ref 85 } }
noncomputable def o173 (P : Params) : Obj := { cls := .type "tuple", data := .seq #[] }
noncomputable def o174 (P : Params) : Obj := { cls := .none, data := .fields #[] }
noncomputable def o175 (P : Params) : Obj := { cls := .type "tuple", data := .seq #[.str (Str.ofString "inp") 586, .str (Str.ofString "STAR") 587, .str (Str.ofString "res") 588, .str (Str.ofString "add") 589, .str (Str.ofString "i") 590, .str (Str.ofString "n") 591, .str (Str.ofString "fixed") 592] }
noncomputable def o176 (P : Params) : Obj := { cls := .type "tuple", data := .seq #[] }
noncomputable def o177 (P : Params) : Obj := { cls := .none, data := .func { name := Str.ofString "_join_translated_parts", qualname := Str.ofString "_join_translated_parts", params := paramsAt P1 15, body := .stmts (bodyAt P1 15), scope := scopeAt P1 15, globals := 0, closure := [], defaults := .none, kwdefaults := .none } }
noncomputable def o178 (P : Params) : Obj := { cls := .type "code", data := .fields #[.str (Str.ofString "_join_translated_parts") 583, .str (Str.ofString "_join_translated_parts") 584, .str (Str.ofString "/claim/cut.py") 585, .int 87 0, .int 2 0, .int 0 0, .int 0 0, .int 3 0, .ref 87, .bool true, .int 276 0, .ref 88, .none, .ref 89, .ref 90, .ref 91, .int 593 0, .int 87 0, .str (Str.ofString "/claim/cut.py") 594] }
noncomputable def o179 (P : Params) : Obj := { cls := .type "function", data := .func { name := Str.ofString "_join_translated_parts", qualname := Str.ofString "_join_translated_parts", params := paramsAt P1 15, body := .stmts (bodyAt P1 15), scope := scopeAt P1 15, globals := 3, closure := [], defaults := .none, kwdefaults := .none, pyModule := .str (Str.ofString "cpy313.fnmatch") 562, code := .ref 92 } }
noncomputable def o180 (P : Params) : Obj := { cls := .type "tuple", data := .seq #[] }
noncomputable def o181 (P : Params) : Obj := { cls := .none, data := .fields #[] }
noncomputable def o182 (P : Params) : Obj := { cls := .type "tuple", data := .seq #[.str (Str.ofString "script") 601, .str (Str.ofString "end") 602, .str (Str.ofString "mail") 603, .str (Str.ofString "piece") 604, .str (Str.ofString "items") 605, .str (Str.ofString "place") 606, .str (Str.ofString "x") 607, .str (Str.ofString "value") 608, .str (Str.ofString "code") 609, .str (Str.ofString "sign") 610, .str (Str.ofString "table") 611, .str (Str.ofString "text") 612, .str (Str.ofString "more") 613] }
noncomputable def o183 (P : Params) : Obj := { cls := .type "tuple", data := .seq #[] }
noncomputable def o184 (P : Params) : Obj := { cls := .none, data := .func { name := Str.ofString "_law_plan", qualname := Str.ofString "_law_plan", params := paramsAt P1 17, body := .stmts (bodyAt P1 17), scope := scopeAt P1 17, globals := 0, closure := [], defaults := .none, kwdefaults := .none } }
noncomputable def o185 (P : Params) : Obj := { cls := .type "code", data := .fields #[.str (Str.ofString "_law_plan") 598, .str (Str.ofString "_law_plan") 599, .str (Str.ofString "/claim/cut.py") 600, .int 115 0, .int 1 0, .int 0 0, .int 0 0, .int 3 0, .ref 94, .bool true, .int 276 0, .ref 95, .none, .ref 96, .ref 97, .ref 98, .int 614 0, .int 115 0, .str (Str.ofString "/claim/cut.py") 615] }
noncomputable def o186 (P : Params) : Obj := { cls := .type "function", data := .func { name := Str.ofString "_law_plan", qualname := Str.ofString "_law_plan", params := paramsAt P1 17, body := .stmts (bodyAt P1 17), scope := scopeAt P1 17, globals := 3, closure := [], defaults := .none, kwdefaults := .none, pyModule := .str (Str.ofString "law_in0038_02") 596, code := .ref 99 } }
noncomputable def o187 (P : Params) : Obj := { cls := .type "tuple", data := .seq #[] }
noncomputable def o188 (P : Params) : Obj := { cls := .none, data := .fields #[] }
noncomputable def o189 (P : Params) : Obj := { cls := .type "tuple", data := .seq #[.str (Str.ofString "mail") 620, .str (Str.ofString "rows") 621, .str (Str.ofString "k") 622] }
noncomputable def o190 (P : Params) : Obj := { cls := .type "tuple", data := .seq #[] }
noncomputable def o191 (P : Params) : Obj := { cls := .none, data := .func { name := Str.ofString "_law_rows", qualname := Str.ofString "_law_rows", params := paramsAt P1 18, body := .stmts (bodyAt P1 18), scope := scopeAt P1 18, globals := 0, closure := [], defaults := .none, kwdefaults := .none } }
noncomputable def o192 (P : Params) : Obj := { cls := .type "code", data := .fields #[.str (Str.ofString "_law_rows") 617, .str (Str.ofString "_law_rows") 618, .str (Str.ofString "/claim/cut.py") 619, .int 131 0, .int 1 0, .int 0 0, .int 0 0, .int 3 0, .ref 101, .bool true, .int 276 0, .ref 102, .none, .ref 103, .ref 104, .ref 105, .int 623 0, .int 131 0, .str (Str.ofString "/claim/cut.py") 624] }
noncomputable def o193 (P : Params) : Obj := { cls := .type "function", data := .func { name := Str.ofString "_law_rows", qualname := Str.ofString "_law_rows", params := paramsAt P1 18, body := .stmts (bodyAt P1 18), scope := scopeAt P1 18, globals := 3, closure := [], defaults := .none, kwdefaults := .none, pyModule := .str (Str.ofString "law_in0038_02") 596, code := .ref 106 } }
noncomputable def o194 (P : Params) : Obj := { cls := .type "tuple", data := .seq #[] }
noncomputable def o195 (P : Params) : Obj := { cls := .none, data := .fields #[] }
noncomputable def o196 (P : Params) : Obj := { cls := .none, data := .func { name := Str.ofString "_law_fits", qualname := Str.ofString "_law_fits", params := paramsAt P1 19, body := .stmts (bodyAt P1 19), scope := scopeAt P1 19, globals := 0, closure := [], defaults := .none, kwdefaults := .none } }
noncomputable def o197 (P : Params) : Obj := { cls := .type "code", data := .fields #[.str (Str.ofString "_law_fits") 626, .str (Str.ofString "_law_fits") 627, .str (Str.ofString "/claim/cut.py") 628, .int 139 0, .int 2 0, .int 0 0, .int 0 0, .int 3 0, .ref 108, .bool true, .int 276 0, .ref 109, .none, .none, .none, .ref 110, .int 629 0, .int 139 0, .str (Str.ofString "/claim/cut.py") 630] }
noncomputable def o198 (P : Params) : Obj := { cls := .type "function", data := .func { name := Str.ofString "_law_fits", qualname := Str.ofString "_law_fits", params := paramsAt P1 19, body := .stmts (bodyAt P1 19), scope := scopeAt P1 19, globals := 3, closure := [], defaults := .none, kwdefaults := .none, pyModule := .str (Str.ofString "law_in0038_02") 596, code := .ref 111 } }
noncomputable def o199 (P : Params) : Obj := { cls := .type "tuple", data := .seq #[] }
noncomputable def o200 (P : Params) : Obj := { cls := .none, data := .fields #[] }
noncomputable def o201 (P : Params) : Obj := { cls := .type "tuple", data := .seq #[.str (Str.ofString "items") 635, .str (Str.ofString "rows") 636, .str (Str.ofString "signs") 637, .str (Str.ofString "best") 638, .str (Str.ofString "k") 639, .str (Str.ofString "here") 640] }
noncomputable def o202 (P : Params) : Obj := { cls := .type "tuple", data := .seq #[] }
noncomputable def o203 (P : Params) : Obj := { cls := .none, data := .func { name := Str.ofString "_law_due", qualname := Str.ofString "_law_due", params := paramsAt P1 20, body := .stmts (bodyAt P1 20), scope := scopeAt P1 20, globals := 0, closure := [], defaults := .none, kwdefaults := .none } }
noncomputable def o204 (P : Params) : Obj := { cls := .type "code", data := .fields #[.str (Str.ofString "_law_due") 632, .str (Str.ofString "_law_due") 633, .str (Str.ofString "/claim/cut.py") 634, .int 141 0, .int 2 0, .int 0 0, .int 0 0, .int 3 0, .ref 113, .bool true, .int 276 0, .ref 114, .none, .ref 115, .ref 116, .ref 117, .int 641 0, .int 141 0, .str (Str.ofString "/claim/cut.py") 642] }
noncomputable def o205 (P : Params) : Obj := { cls := .type "function", data := .func { name := Str.ofString "_law_due", qualname := Str.ofString "_law_due", params := paramsAt P1 20, body := .stmts (bodyAt P1 20), scope := scopeAt P1 20, globals := 3, closure := [], defaults := .none, kwdefaults := .none, pyModule := .str (Str.ofString "law_in0038_02") 596, code := .ref 118 } }
noncomputable def o206 (P : Params) : Obj := { cls := .type "tuple", data := .seq #[] }
noncomputable def o207 (P : Params) : Obj := { cls := .none, data := .fields #[] }
noncomputable def o208 (P : Params) : Obj := { cls := .type "tuple", data := .seq #[.str (Str.ofString "group") 647, .str (Str.ofString "units") 648, .str (Str.ofString "k") 649, .str (Str.ofString "size") 650, .str (Str.ofString "inner") 651, .str (Str.ofString "last") 652] }
noncomputable def o209 (P : Params) : Obj := { cls := .type "tuple", data := .seq #[] }
noncomputable def o210 (P : Params) : Obj := { cls := .none, data := .func { name := Str.ofString "_law_units", qualname := Str.ofString "_law_units", params := paramsAt P1 21, body := .stmts (bodyAt P1 21), scope := scopeAt P1 21, globals := 0, closure := [], defaults := .none, kwdefaults := .none } }
noncomputable def o211 (P : Params) : Obj := { cls := .type "code", data := .fields #[.str (Str.ofString "_law_units") 644, .str (Str.ofString "_law_units") 645, .str (Str.ofString "/claim/cut.py") 646, .int 148 0, .int 1 0, .int 0 0, .int 0 0, .int 3 0, .ref 120, .bool true, .int 276 0, .ref 121, .none, .ref 122, .ref 123, .ref 124, .int 653 0, .int 148 0, .str (Str.ofString "/claim/cut.py") 654] }
noncomputable def o212 (P : Params) : Obj := { cls := .type "function", data := .func { name := Str.ofString "_law_units", qualname := Str.ofString "_law_units", params := paramsAt P1 21, body := .stmts (bodyAt P1 21), scope := scopeAt P1 21, globals := 3, closure := [], defaults := .none, kwdefaults := .none, pyModule := .str (Str.ofString "law_in0038_02") 596, code := .ref 125 } }
noncomputable def o213 (P : Params) : Obj := { cls := .type "tuple", data := .seq #[] }
noncomputable def o214 (P : Params) : Obj := { cls := .none, data := .fields #[] }
noncomputable def o215 (P : Params) : Obj := { cls := .type "tuple", data := .seq #[.str (Str.ofString "text") 659, .str (Str.ofString "k") 660, .str (Str.ofString "heard") 661, .str (Str.ofString "groups") 662, .str (Str.ofString "units") 663, .str (Str.ofString "at") 664, .str (Str.ofString "group") 665] }
noncomputable def o216 (P : Params) : Obj := { cls := .type "tuple", data := .seq #[] }
noncomputable def o217 (P : Params) : Obj := { cls := .none, data := .func { name := Str.ofString "_law_through", qualname := Str.ofString "_law_through", params := paramsAt P1 22, body := .stmts (bodyAt P1 22), scope := scopeAt P1 22, globals := 0, closure := [], defaults := .none, kwdefaults := .none } }
noncomputable def o218 (P : Params) : Obj := { cls := .type "code", data := .fields #[.str (Str.ofString "_law_through") 656, .str (Str.ofString "_law_through") 657, .str (Str.ofString "/claim/cut.py") 658, .int 162 0, .int 3 0, .int 0 0, .int 0 0, .int 3 0, .ref 127, .bool true, .int 276 0, .ref 128, .none, .ref 129, .ref 130, .ref 131, .int 666 0, .int 162 0, .str (Str.ofString "/claim/cut.py") 667] }
noncomputable def o219 (P : Params) : Obj := { cls := .type "function", data := .func { name := Str.ofString "_law_through", qualname := Str.ofString "_law_through", params := paramsAt P1 22, body := .stmts (bodyAt P1 22), scope := scopeAt P1 22, globals := 3, closure := [], defaults := .none, kwdefaults := .none, pyModule := .str (Str.ofString "law_in0038_02") 596, code := .ref 132 } }
noncomputable def o220 (P : Params) : Obj := { cls := .type "tuple", data := .seq #[] }
noncomputable def o221 (P : Params) : Obj := { cls := .none, data := .fields #[] }
noncomputable def o222 (P : Params) : Obj := { cls := .type "tuple", data := .seq #[.str (Str.ofString "piece") 672, .str (Str.ofString "heard") 673, .str (Str.ofString "due") 674, .str (Str.ofString "k") 675] }
noncomputable def o223 (P : Params) : Obj := { cls := .type "tuple", data := .seq #[] }
noncomputable def o224 (P : Params) : Obj := { cls := .none, data := .func { name := Str.ofString "_law_counts", qualname := Str.ofString "_law_counts", params := paramsAt P1 23, body := .stmts (bodyAt P1 23), scope := scopeAt P1 23, globals := 0, closure := [], defaults := .none, kwdefaults := .none } }
noncomputable def o225 (P : Params) : Obj := { cls := .type "code", data := .fields #[.str (Str.ofString "_law_counts") 669, .str (Str.ofString "_law_counts") 670, .str (Str.ofString "/claim/cut.py") 671, .int 175 0, .int 3 0, .int 0 0, .int 0 0, .int 3 0, .ref 134, .bool true, .int 276 0, .ref 135, .none, .ref 136, .ref 137, .ref 138, .int 676 0, .int 175 0, .str (Str.ofString "/claim/cut.py") 677] }
noncomputable def o226 (P : Params) : Obj := { cls := .type "function", data := .func { name := Str.ofString "_law_counts", qualname := Str.ofString "_law_counts", params := paramsAt P1 23, body := .stmts (bodyAt P1 23), scope := scopeAt P1 23, globals := 3, closure := [], defaults := .none, kwdefaults := .none, pyModule := .str (Str.ofString "law_in0038_02") 596, code := .ref 139 } }
noncomputable def o227 (P : Params) : Obj := { cls := .type "tuple", data := .seq #[] }
noncomputable def o228 (P : Params) : Obj := { cls := .none, data := .fields #[] }
noncomputable def o229 (P : Params) : Obj := { cls := .none, data := .func { name := Str.ofString "law", qualname := Str.ofString "law", params := paramsAt P1 24, body := .stmts (bodyAt P1 24), scope := scopeAt P1 24, globals := 0, closure := [], defaults := .none, kwdefaults := .none } }
noncomputable def o230 (P : Params) : Obj := { cls := .type "code", data := .fields #[.str (Str.ofString "law") 679, .str (Str.ofString "law") 680, .str (Str.ofString "/claim/cut.py") 681, .int 180 0, .int 1 0, .int 0 0, .int 0 0, .int 3 0, .ref 141, .bool true, .int 276 0, .ref 142, .none, .none, .none, .ref 143, .int 682 0, .int 180 0, .str (Str.ofString "/claim/cut.py") 683] }
noncomputable def o231 (P : Params) : Obj := { cls := .type "function", data := .func { name := Str.ofString "law", qualname := Str.ofString "law", params := paramsAt P1 24, body := .stmts (bodyAt P1 24), scope := scopeAt P1 24, globals := 3, closure := [], defaults := .none, kwdefaults := .none, pyModule := .str (Str.ofString "law_in0038_02") 596, code := .ref 144 } }
noncomputable def heapS : Params → Frag := fun P => [(3, o157 P), (35, o80 P), (36, o81 P), (40, o85 P), (41, o86 P), (47, o92 P), (48, o93 P), (54, o99 P), (55, o100 P), (59, o104 P), (60, o105 P), (66, o111 P), (67, o112 P), (69, o115 P), (78, o164 P), (79, o165 P), (85, o171 P), (86, o172 P), (92, o178 P), (93, o179 P), (99, o185 P), (100, o186 P), (106, o192 P), (107, o193 P), (111, o197 P), (112, o198 P), (118, o204 P), (119, o205 P), (125, o211 P), (126, o212 P), (132, o218 P), (133, o219 P), (139, o225 P), (140, o226 P), (144, o230 P), (145, o231 P)]
noncomputable def keepB : List Stmt → List Nat → List Stmt
  | l, is => is.filterMap fun i => l[i]?
noncomputable def viewS : Program := { P1 with main := { P1.main with body := keepB P1.main.body [0, 2, 3, 4, 5, 6, 8, 9, 11, 12, 14, 15, 17, 18, 19, 20, 21, 22, 23, 24] } }
noncomputable abbrev RS : RowW := PySem.Challenge.rw_in0038_02.row.toRowW
noncomputable abbrev addrS : List Addr := [3, 35, 36, 40, 41, 47, 48, 54, 55, 59, 60, 66, 67, 69, 78, 79, 85, 86, 92, 93, 99, 100, 106, 107, 111, 112, 118, 119, 125, 126, 132, 133, 139, 140, 144, 145]
noncomputable abbrev HKS : Hook := kmHook heapS addrS (fun _ => by kernel_rfl) [81]
noncomputable abbrev looseS : List Str := ["twin_re_1_smtplib", "_twin_re_2", "twin_re_1_fnmatch", "_special_chars_map"]
noncomputable abbrev XtS : Shared → Bool := fun s => xlAt viewS [] s && recOk (RowW.records RS) s
noncomputable def hA (P : Params) : Heap := ⟨⟨[o41 P, o42 P, o43 P, o44 P, o45 P, o46 P, o47 P, o48 P, o49 P, o50 P, o51 P, o52 P, o53 P, o54 P, o55 P, o56 P, o57 P, o58 P, o59 P, o60 P, o61 P, o62 P, o63 P, o64 P, o65 P, o66 P, o67 P, o68 P]⟩, {}⟩
noncomputable def hM (P : Params) : Heap := ⟨⟨[o41 P, o42 P, o43 P, o44 P, o45 P, o46 P, o47 P, o48 P, o49 P, o50 P, o51 P, o52 P, o53 P, o54 P, o55 P, o56 P, o57 P, o58 P, o59 P, o60 P, o61 P, o62 P, o63 P, o64 P, o65 P, o66 P, o67 P, o68 P, o69 P, o70 P, o71 P, o72 P]⟩, {}⟩
noncomputable def hZ (P : Params) : Heap := ⟨⟨[o41 P, o42 P, o43 P, o157 P, o45 P, o46 P, o47 P, o48 P, o49 P, o50 P, o51 P, o52 P, o53 P, o54 P, o55 P, o56 P, o57 P, o58 P, o59 P, o60 P, o61 P, o62 P, o63 P, o64 P, o65 P, o66 P, o67 P, o68 P, o69 P, o158 P, o71 P, o72 P, o77 P, o78 P, o79 P, o80 P, o81 P, o82 P, o83 P, o84 P, o85 P, o86 P, o87 P, o88 P, o89 P, o90 P, o91 P, o92 P, o93 P, o94 P, o95 P, o96 P, o97 P, o98 P, o99 P, o100 P, o101 P, o102 P, o103 P, o104 P, o105 P, o106 P, o107 P, o108 P, o109 P, o110 P, o111 P, o112 P, o114 P, o115 P, o116 P, o117 P, o118 P, o159 P, o160 P, o161 P, o162 P, o163 P, o164 P, o165 P, o166 P, o167 P, o168 P, o169 P, o170 P, o171 P, o172 P, o173 P, o174 P, o175 P, o176 P, o177 P, o178 P, o179 P, o180 P, o181 P, o182 P, o183 P, o184 P, o185 P, o186 P, o187 P, o188 P, o189 P, o190 P, o191 P, o192 P, o193 P, o194 P, o195 P, o196 P, o197 P, o198 P, o199 P, o200 P, o201 P, o202 P, o203 P, o204 P, o205 P, o206 P, o207 P, o208 P, o209 P, o210 P, o211 P, o212 P, o213 P, o214 P, o215 P, o216 P, o217 P, o218 P, o219 P, o220 P, o221 P, o222 P, o223 P, o224 P, o225 P, o226 P, o227 P, o228 P, o229 P, o230 P, o231 P]⟩, {}⟩
noncomputable def t1 (P : Params) : BT := .node (o41 P) (.node (o42 P) (.node (o44 P) (.node (o48 P) (.node (o56 P) (.node (o72 P) .nil .nil) (.nil)) (.node (o64 P) .nil .nil)) (.node (o52 P) (.node (o60 P) .nil .nil) (.node (o68 P) .nil .nil))) (.node (o46 P) (.node (o50 P) (.node (o58 P) .nil .nil) (.node (o66 P) .nil .nil)) (.node (o54 P) (.node (o62 P) .nil .nil) (.node (o70 P) .nil .nil)))) (.node (o43 P) (.node (o45 P) (.node (o49 P) (.node (o57 P) .nil .nil) (.node (o65 P) .nil .nil)) (.node (o53 P) (.node (o61 P) .nil .nil) (.node (o69 P) .nil .nil))) (.node (o47 P) (.node (o51 P) (.node (o59 P) .nil .nil) (.node (o67 P) .nil .nil)) (.node (o55 P) (.node (o63 P) .nil .nil) (.node (o71 P) .nil .nil))))
noncomputable def t2 (P : Params) : BT := .node (o41 P) (.node (o42 P) (.node (o75 P) (.node (o48 P) (.node (o56 P) (.node (o72 P) (.node (o108 P) .nil .nil) (.nil)) (.node (o92 P) .nil .nil)) (.node (o64 P) (.node (o84 P) .nil .nil) (.node (o100 P) .nil .nil))) (.node (o52 P) (.node (o60 P) (.node (o80 P) (.node (o112 P) .nil .nil) (.nil)) (.node (o96 P) .nil .nil)) (.node (o68 P) (.node (o88 P) .nil .nil) (.node (o104 P) .nil .nil)))) (.node (o46 P) (.node (o50 P) (.node (o58 P) (.node (o78 P) (.node (o110 P) .nil .nil) (.nil)) (.node (o94 P) .nil .nil)) (.node (o66 P) (.node (o86 P) .nil .nil) (.node (o102 P) .nil .nil))) (.node (o54 P) (.node (o62 P) (.node (o82 P) .nil .nil) (.node (o98 P) .nil .nil)) (.node (o76 P) (.node (o90 P) .nil .nil) (.node (o106 P) .nil .nil))))) (.node (o43 P) (.node (o45 P) (.node (o49 P) (.node (o57 P) (.node (o77 P) (.node (o109 P) .nil .nil) (.nil)) (.node (o93 P) .nil .nil)) (.node (o65 P) (.node (o85 P) .nil .nil) (.node (o101 P) .nil .nil))) (.node (o53 P) (.node (o61 P) (.node (o81 P) .nil .nil) (.node (o97 P) .nil .nil)) (.node (o69 P) (.node (o89 P) .nil .nil) (.node (o105 P) .nil .nil)))) (.node (o47 P) (.node (o51 P) (.node (o59 P) (.node (o79 P) (.node (o111 P) .nil .nil) (.nil)) (.node (o95 P) .nil .nil)) (.node (o67 P) (.node (o87 P) .nil .nil) (.node (o103 P) .nil .nil))) (.node (o55 P) (.node (o63 P) (.node (o83 P) .nil .nil) (.node (o99 P) .nil .nil)) (.node (o71 P) (.node (o91 P) .nil .nil) (.node (o107 P) .nil .nil)))))
noncomputable def t3 (P : Params) : BT := .node (o41 P) (.node (o42 P) (.node (o113 P) (.node (o48 P) (.node (o56 P) (.node (o72 P) (.node (o108 P) .nil .nil) (.nil)) (.node (o92 P) .nil .nil)) (.node (o64 P) (.node (o84 P) (.node (o117 P) .nil .nil) (.nil)) (.node (o100 P) .nil .nil))) (.node (o52 P) (.node (o60 P) (.node (o80 P) (.node (o112 P) .nil .nil) (.nil)) (.node (o96 P) .nil .nil)) (.node (o68 P) (.node (o88 P) .nil .nil) (.node (o104 P) .nil .nil)))) (.node (o46 P) (.node (o50 P) (.node (o58 P) (.node (o78 P) (.node (o110 P) .nil .nil) (.nil)) (.node (o94 P) .nil .nil)) (.node (o66 P) (.node (o86 P) .nil .nil) (.node (o102 P) .nil .nil))) (.node (o54 P) (.node (o62 P) (.node (o82 P) (.node (o115 P) .nil .nil) (.nil)) (.node (o98 P) .nil .nil)) (.node (o76 P) (.node (o90 P) .nil .nil) (.node (o106 P) .nil .nil))))) (.node (o43 P) (.node (o45 P) (.node (o49 P) (.node (o57 P) (.node (o77 P) (.node (o109 P) .nil .nil) (.nil)) (.node (o93 P) .nil .nil)) (.node (o65 P) (.node (o85 P) (.node (o118 P) .nil .nil) (.nil)) (.node (o101 P) .nil .nil))) (.node (o53 P) (.node (o61 P) (.node (o81 P) (.node (o114 P) .nil .nil) (.nil)) (.node (o97 P) .nil .nil)) (.node (o69 P) (.node (o89 P) .nil .nil) (.node (o105 P) .nil .nil)))) (.node (o47 P) (.node (o51 P) (.node (o59 P) (.node (o79 P) (.node (o111 P) .nil .nil) (.nil)) (.node (o95 P) .nil .nil)) (.node (o67 P) (.node (o87 P) .nil .nil) (.node (o103 P) .nil .nil))) (.node (o55 P) (.node (o63 P) (.node (o83 P) (.node (o116 P) .nil .nil) (.nil)) (.node (o99 P) .nil .nil)) (.node (o71 P) (.node (o91 P) .nil .nil) (.node (o107 P) .nil .nil)))))
noncomputable def t4 (P : Params) : BT := .node (o41 P) (.node (o42 P) (.node (o157 P) (.node (o48 P) (.node (o56 P) (.node (o72 P) (.node (o108 P) (.node (o213 P) .nil .nil) (.nil)) (.node (o181 P) .nil .nil)) (.node (o92 P) (.node (o165 P) (.node (o229 P) .nil .nil) (.nil)) (.node (o197 P) .nil .nil))) (.node (o64 P) (.node (o84 P) (.node (o117 P) (.node (o221 P) .nil .nil) (.nil)) (.node (o189 P) .nil .nil)) (.node (o100 P) (.node (o173 P) .nil .nil) (.node (o205 P) .nil .nil)))) (.node (o52 P) (.node (o60 P) (.node (o80 P) (.node (o112 P) (.node (o217 P) .nil .nil) (.nil)) (.node (o185 P) .nil .nil)) (.node (o96 P) (.node (o169 P) .nil .nil) (.node (o201 P) .nil .nil))) (.node (o68 P) (.node (o88 P) (.node (o161 P) (.node (o225 P) .nil .nil) (.nil)) (.node (o193 P) .nil .nil)) (.node (o104 P) (.node (o177 P) .nil .nil) (.node (o209 P) .nil .nil))))) (.node (o46 P) (.node (o50 P) (.node (o58 P) (.node (o78 P) (.node (o110 P) (.node (o215 P) .nil .nil) (.nil)) (.node (o183 P) .nil .nil)) (.node (o94 P) (.node (o167 P) (.node (o231 P) .nil .nil) (.nil)) (.node (o199 P) .nil .nil))) (.node (o66 P) (.node (o86 P) (.node (o159 P) (.node (o223 P) .nil .nil) (.nil)) (.node (o191 P) .nil .nil)) (.node (o102 P) (.node (o175 P) .nil .nil) (.node (o207 P) .nil .nil)))) (.node (o54 P) (.node (o62 P) (.node (o82 P) (.node (o115 P) (.node (o219 P) .nil .nil) (.nil)) (.node (o187 P) .nil .nil)) (.node (o98 P) (.node (o171 P) .nil .nil) (.node (o203 P) .nil .nil))) (.node (o158 P) (.node (o90 P) (.node (o163 P) (.node (o227 P) .nil .nil) (.nil)) (.node (o195 P) .nil .nil)) (.node (o106 P) (.node (o179 P) .nil .nil) (.node (o211 P) .nil .nil)))))) (.node (o43 P) (.node (o45 P) (.node (o49 P) (.node (o57 P) (.node (o77 P) (.node (o109 P) (.node (o214 P) .nil .nil) (.nil)) (.node (o182 P) .nil .nil)) (.node (o93 P) (.node (o166 P) (.node (o230 P) .nil .nil) (.nil)) (.node (o198 P) .nil .nil))) (.node (o65 P) (.node (o85 P) (.node (o118 P) (.node (o222 P) .nil .nil) (.nil)) (.node (o190 P) .nil .nil)) (.node (o101 P) (.node (o174 P) .nil .nil) (.node (o206 P) .nil .nil)))) (.node (o53 P) (.node (o61 P) (.node (o81 P) (.node (o114 P) (.node (o218 P) .nil .nil) (.nil)) (.node (o186 P) .nil .nil)) (.node (o97 P) (.node (o170 P) .nil .nil) (.node (o202 P) .nil .nil))) (.node (o69 P) (.node (o89 P) (.node (o162 P) (.node (o226 P) .nil .nil) (.nil)) (.node (o194 P) .nil .nil)) (.node (o105 P) (.node (o178 P) .nil .nil) (.node (o210 P) .nil .nil))))) (.node (o47 P) (.node (o51 P) (.node (o59 P) (.node (o79 P) (.node (o111 P) (.node (o216 P) .nil .nil) (.nil)) (.node (o184 P) .nil .nil)) (.node (o95 P) (.node (o168 P) .nil .nil) (.node (o200 P) .nil .nil))) (.node (o67 P) (.node (o87 P) (.node (o160 P) (.node (o224 P) .nil .nil) (.nil)) (.node (o192 P) .nil .nil)) (.node (o103 P) (.node (o176 P) .nil .nil) (.node (o208 P) .nil .nil)))) (.node (o55 P) (.node (o63 P) (.node (o83 P) (.node (o116 P) (.node (o220 P) .nil .nil) (.nil)) (.node (o188 P) .nil .nil)) (.node (o99 P) (.node (o172 P) .nil .nil) (.node (o204 P) .nil .nil))) (.node (o71 P) (.node (o91 P) (.node (o164 P) (.node (o228 P) .nil .nil) (.nil)) (.node (o196 P) .nil .nil)) (.node (o107 P) (.node (o180 P) .nil .nil) (.node (o212 P) .nil .nil))))))
noncomputable def topE : Env := { scope := RS.prog.main.scope, locals := mainNs, globals := mainNs, cells := [], code := .ref 30, frame := some 31 }
noncomputable def topC : Code := .body (behindTheImports RS.prog) topE
noncomputable abbrev tP : Pos := { line := 0, col := 0, endLine := 0, endCol := 0 }
noncomputable abbrev tQ : Pos := { line := 16, col := 0, endLine := 16, endCol := 8 }
noncomputable abbrev tR : Pos := { line := 17, col := 0, endLine := 17, endCol := 18 }
noncomputable abbrev tS : Pos := { line := 180, col := 0, endLine := 188, endCol := 112 }
noncomputable def stA : List Stmt := (behindTheImports RS.prog).take 10
noncomputable def stB : List Stmt := ((behindTheImports RS.prog).drop 10).take 1
noncomputable def stC : List Stmt := (behindTheImports RS.prog).drop 11
theorem top_open : ∀ w : World, (fencedOpening treeTable RS.prog w 4094).map (fun s => (s.heap, s.gens, s.drawn, s.toks)) = some (hA w.params, #[], {}, 276) := fun w => by kernel_rfl
theorem top_size : ∀ w : World, ((hA w.params).isNs mainGlobals && (#[] : Array GenState).size == 0, (hA w.params).objs.size, (hA w.params).nsMap mainGlobals "__annotations__") = (true, 28, some (.ref 6)) := fun w => by kernel_rfl
theorem top_0 (w : World) (os : OsState) : topGo treeTable RS.prog w 28 (some (.ref 6)) 12 ⟨hA w.params, #[], {}, 276, os⟩ (topStub RS.prog) = some (⟨hM w.params, #[], {}, 282, os⟩, ⟨denote treeTable topC, topC, tP, [topFrame tP]⟩) := by kernel_rfl
theorem top_1 (w : World) (os : OsState) : segRun treeTable RS.prog w 28 (some (.ref 6)) 1 1 ⟨hM w.params, #[], {}, 282, os⟩ (blockOf (behindTheImports RS.prog) topE topC tP [topFrame tP]) = some (.next, SharedT.abs ⟨t1 w.params, 32, {}, #[], {}, 282, os⟩, topC, tP) := by kernel_rfl
theorem top_A (w : World) (os : OsState) : segRunT treeTable RS.prog w 28 (some (.ref 6)) 1 351 ⟨t1 w.params, 32, {}, #[], {}, 282, os⟩ (piecesOf stA topE topC tP [topFrame tP]) = some (.next, ⟨t2 w.params, 68, {}, #[], {}, 409, os⟩, topC, tQ) := by kernel_rfl
noncomputable abbrev LeafS (w : World) : Prop := ∀ os : OsState, segRunT treeTable RS.prog w 28 (some (.ref 6)) 1 1253 ⟨t2 w.params, 68, {}, #[], {}, 409, os⟩ (piecesOf stB topE topC tQ [topFrame tP]) = some (.next, ⟨t3 w.params, 73, {}, #[], {}, 555, os⟩, topC, tR)
theorem leaf_ff (w : World) : LeafS ((w.withFollow "comprehension-iter-twice" false).withFollow "special-get-raises" false) := fun os => by kernel_rfl
theorem leaf_ft (w : World) : LeafS ((w.withFollow "comprehension-iter-twice" false).withFollow "special-get-raises" true) := fun os => by kernel_rfl
theorem leaf_tf (w : World) : LeafS ((w.withFollow "comprehension-iter-twice" true).withFollow "special-get-raises" false) := fun os => by kernel_rfl
theorem leaf_tt (w : World) : LeafS ((w.withFollow "comprehension-iter-twice" true).withFollow "special-get-raises" true) := fun os => by kernel_rfl
theorem top_B (w : World) : LeafS w :=
  byRow2 (P := LeafS) "special-get-raises"
    (fun w => byRow2 (P := fun w => LeafS (w.withFollow "special-get-raises" false)) "comprehension-iter-twice" (fun w => leaf_ff w) (fun w => leaf_tf w) w)
    (fun w => byRow2 (P := fun w => LeafS (w.withFollow "special-get-raises" true)) "comprehension-iter-twice" (fun w => leaf_ft w) (fun w => leaf_tt w) w) w
theorem top_C (w : World) (os : OsState) : segRunT treeTable RS.prog w 28 (some (.ref 6)) 1 383 ⟨t3 w.params, 73, {}, #[], {}, 555, os⟩ (piecesOf stC topE topC tR [topFrame tP]) = some (.next, ⟨t4 w.params, 146, {}, #[], {}, 685, os⟩, topC, tS) := by kernel_rfl
theorem top_Z (w : World) (os : OsState) : topRun treeTable RS.prog w 28 (some (.ref 6)) 2 (SharedT.abs ⟨t4 w.params, 146, {}, #[], {}, 685, os⟩) ⟨doneF .next, topC, tS, [topFrame tP]⟩ = some ⟨hZ w.params, #[], {}, 685, os⟩ := by kernel_rfl
theorem top_split : behindTheImports RS.prog = stA ++ (stB ++ (stC ++ [])) := by kernel_rfl
theorem top_run (w : World) (os : OsState) : topRun treeTable RS.prog w 28 (some (.ref 6)) (12 + (1 + (351 + (1253 + (383 + 2))))) ⟨hA w.params, #[], {}, 276, os⟩ (topStub RS.prog) = some ⟨hZ w.params, #[], {}, 685, os⟩ := by
  refine go_top (top_0 w os) (piece_block (b := behindTheImports RS.prog) (env := topE) (top_1 w os) ?_)
  rw [top_split]
  exact piece_app (segRun_of (top_A w os)) (piece_app (segRun_of (top_B w os)) (piece_app (segRun_of (top_C w os)) (piece_nil (top_Z w os))))
theorem top_looks : ∀ w : World, (fun os => ((staticsOk (importedModules RS.prog.main.body) (hA w.params) (hZ w.params) && namesBound RS.prog (hZ w.params) && gensDone ⟨hZ w.params, #[], {}, 685, os⟩ && laidKept (hA w.params) (hZ w.params)),
    openSeen viewS looseS (importedModules RS.prog.main.body) XtS true ⟨hZ w.params, #[], {}, 685, os⟩, HKS.obs ⟨hZ w.params, #[], {}, 685, os⟩)) = fun _ => (true, openGood viewS looseS, HKS.val w) := fun w => by kernel_rfl
/-- the whole top, in every world -/
theorem left_all : LeftO RS.prog viewS looseS XtS HKS.obs HKS.val 4094 := LeftO.of_pieces (H₀ := hA) (H₁ := hZ) (gs₀ := #[]) (gs₁ := #[]) (d₀ := {}) (d₁ := {}) top_open top_size top_run (by decide +kernel) top_looks
end Mine

end
section
open PySem PySem.Calls PySem.W PyProof.Rows
set_option Elab.async false
set_option autoImplicit false
set_option linter.unusedVariables false
set_option maxRecDepth 100000
namespace Mine
noncomputable abbrev KH (w : World) : Frag := heapS w.params
section
variable {w : World} {h₀ : Heap}
noncomputable abbrev cH (w : World) (h₀ : Heap) (hB : Base (KH w) h₀) : C := ⟨P1, w, KH w, h₀, hB⟩
theorem blt {w : World} {x : Str} {v : Value} (h1 : nsIn (KH w) mainGlobals x = some none) (h2 : (x == ("__name__" : Str)) = false) (h3 : bootBuiltins x = some v) : Glob (KH w) x v := .inr ⟨h1, by simpa using h2, h3⟩
theorem bind1 {fd : FuncData} {p : Str} (h : ∀ v, bindArgs fd ⟨[v], []⟩ = pure [(p, v)]) : ∀ vs : List Value, vs.length = [p].length → bindArgs fd ⟨vs, []⟩ = pure ([p].zip vs) := fun vs hl => by
  obtain ⟨v, t, rfl⟩ := List.exists_cons_of_length_eq_add_one hl
  obtain rfl := List.length_eq_zero_iff.mp (Nat.succ.inj hl)
  exact h v
theorem bind2 {fd : FuncData} {p q : Str} (h : ∀ v u, bindArgs fd ⟨[v, u], []⟩ = pure [(p, v), (q, u)]) : ∀ vs : List Value, vs.length = [p, q].length → bindArgs fd ⟨vs, []⟩ = pure ([p, q].zip vs) := fun vs hl => by
  obtain ⟨v, t, rfl⟩ := List.exists_cons_of_length_eq_add_one hl
  obtain ⟨u, s, rfl⟩ := List.exists_cons_of_length_eq_add_one (Nat.succ.inj hl)
  obtain rfl := List.length_eq_zero_iff.mp (Nat.succ.inj (Nat.succ.inj hl))
  exact h v u
theorem bind3 {fd : FuncData} {p q r : Str} (h : ∀ v u t, bindArgs fd ⟨[v, u, t], []⟩ = pure [(p, v), (q, u), (r, t)]) : ∀ vs : List Value, vs.length = [p, q, r].length → bindArgs fd ⟨vs, []⟩ = pure ([p, q, r].zip vs) := fun vs hl => by
  obtain ⟨v, a, rfl⟩ := List.exists_cons_of_length_eq_add_one hl
  obtain ⟨u, b, rfl⟩ := List.exists_cons_of_length_eq_add_one (Nat.succ.inj hl)
  obtain ⟨t, d, rfl⟩ := List.exists_cons_of_length_eq_add_one (Nat.succ.inj (Nat.succ.inj hl))
  obtain rfl := List.length_eq_zero_iff.mp (Nat.succ.inj (Nat.succ.inj (Nat.succ.inj hl)))
  exact h v u t
noncomputable def crT (w : World) : Tok := match nsIn (KH w) mainGlobals "CRLF" with
  | some (some (.str _ t)) => t
  | _ => 0
noncomputable def patF (w : World) (a : Addr) (i : Nat) : Value := match (objAt (KH w) a).data with
  | .fields vs => vs.getD i .none
  | _ => .none
theorem pat_of (hB : Base (KH w) h₀) {a t : Addr} {g : Nat} {code : Array Nat} (h1 : (KH w).lookup a = some { cls := .type "re.Pattern", data := .fields #[patF w a 0, patF w a 1, .int g 0, .none, .none, .ref t, .int 0 0] })
    (h2 : (KH w).lookup t = some { cls := .type "tuple", data := .seq (code.map fun (n : Nat) => Value.int (n : Int) 0) 0 }) : PatOk h₀ a code g := ⟨patF w a 0, patF w a 1, t, 0, hB.kin _ _ h1, hB.kin _ _ h2⟩
theorem wd_of (hB : Base (KH w) h₀) : Wd (cH w h₀ hB) where
  len := blt (by kernel_rfl) (by decide +kernel) (by kernel_rfl)
  chr := blt (by kernel_rfl) (by decide +kernel) (by kernel_rfl)
  min := blt (by kernel_rfl) (by decide +kernel) (by kernel_rfl)
  max := blt (by kernel_rfl) (by decide +kernel) (by kernel_rfl)
  isi := blt (by kernel_rfl) (by decide +kernel) (by kernel_rfl)
  range := blt (by kernel_rfl) (by decide +kernel) (by kernel_rfl)
  list := blt (by kernel_rfl) (by decide +kernel) (by kernel_rfl)
  str := blt (by kernel_rfl) (by decide +kernel) (by kernel_rfl)
  enum := blt (by kernel_rfl) (by decide +kernel) (by kernel_rfl)
  object := blt (by kernel_rfl) (by decide +kernel) (by kernel_rfl)
  p36 := pat_of hB (t := 35) (by kernel_rfl) (by kernel_rfl)
  p41 := pat_of hB (t := 40) (by kernel_rfl) (by kernel_rfl)
  p60 := pat_of hB (t := 59) (by kernel_rfl) (by kernel_rfl)
  t69 := tabOk_of hB.kin (by decide +kernel) (by kernel_rfl) (by kernel_rfl) (by kernel_rfl)
  g36 := .inl (by kernel_rfl)
  g41 := .inl (by kernel_rfl)
  g60 := .inl (by kernel_rfl)
  g69 := .inl (by kernel_rfl)
  crlf := ⟨crT w, .inl (by kernel_rfl)⟩
  f48 := .inl (by kernel_rfl)
  f55 := .inl (by kernel_rfl)
  f67 := .inl (by kernel_rfl)
  f79 := .inl (by kernel_rfl)
  f86 := .inl (by kernel_rfl)
  f93 := .inl (by kernel_rfl)
theorem wd1_of (hB : Base (KH w) h₀) : Wd1 (cH w h₀ hB) where
  w := wd_of hB
  F48 := fnIs_of hB.kin (by kernel_rfl) (by kernel_rfl) (by kernel_rfl) (by kernel_rfl) (by kernel_rfl) (by kernel_rfl) (by kernel_rfl) (by kernel_rfl) (by kernel_rfl) (by kernel_rfl) (by kernel_rfl) (by kernel_rfl) (.inl (by decide +kernel)) (bind1 fun v => by kernel_rfl)
  F55 := fnIs_of hB.kin (by kernel_rfl) (by kernel_rfl) (by kernel_rfl) (by kernel_rfl) (by kernel_rfl) (by kernel_rfl) (by kernel_rfl) (by kernel_rfl) (by kernel_rfl) (by kernel_rfl) (by kernel_rfl) (by kernel_rfl) (.inl (by decide +kernel)) (bind1 fun v => by kernel_rfl)
  F67 := fnIs_of hB.kin (by kernel_rfl) (by kernel_rfl) (by kernel_rfl) (by kernel_rfl) (by kernel_rfl) (by kernel_rfl) (by kernel_rfl) (by kernel_rfl) (by kernel_rfl) (by kernel_rfl) (by kernel_rfl) (by kernel_rfl) (.inl (by decide +kernel)) (bind1 fun v => by kernel_rfl)
  F79 := fnIs_of hB.kin (by kernel_rfl) (by kernel_rfl) (by kernel_rfl) (by kernel_rfl) (by kernel_rfl) (by kernel_rfl) (by kernel_rfl) (by kernel_rfl) (by kernel_rfl) (by kernel_rfl) (by kernel_rfl) (by kernel_rfl) (.inl (by decide +kernel)) (bind1 fun v => by kernel_rfl)
  F86 := fnIs_of hB.kin (by kernel_rfl) (by kernel_rfl) (by kernel_rfl) (by kernel_rfl) (by kernel_rfl) (by kernel_rfl) (by kernel_rfl) (by kernel_rfl) (by kernel_rfl) (by kernel_rfl) (by kernel_rfl) (by kernel_rfl) (.inr (by kernel_rfl)) (bind3 fun v u t => by kernel_rfl)
  F93 := fnIs_of hB.kin (by kernel_rfl) (by kernel_rfl) (by kernel_rfl) (by kernel_rfl) (by kernel_rfl) (by kernel_rfl) (by kernel_rfl) (by kernel_rfl) (by kernel_rfl) (by kernel_rfl) (by kernel_rfl) (by kernel_rfl) (.inl (by decide +kernel)) (bind2 fun v u => by kernel_rfl)
  F100 := fnIs_of hB.kin (by kernel_rfl) (by kernel_rfl) (by kernel_rfl) (by kernel_rfl) (by kernel_rfl) (by kernel_rfl) (by kernel_rfl) (by kernel_rfl) (by kernel_rfl) (by kernel_rfl) (by kernel_rfl) (by kernel_rfl) (.inl (by decide +kernel)) (bind1 fun v => by kernel_rfl)
  F107 := fnIs_of hB.kin (by kernel_rfl) (by kernel_rfl) (by kernel_rfl) (by kernel_rfl) (by kernel_rfl) (by kernel_rfl) (by kernel_rfl) (by kernel_rfl) (by kernel_rfl) (by kernel_rfl) (by kernel_rfl) (by kernel_rfl) (.inl (by decide +kernel)) (bind1 fun v => by kernel_rfl)
  F112 := fnIs_of hB.kin (by kernel_rfl) (by kernel_rfl) (by kernel_rfl) (by kernel_rfl) (by kernel_rfl) (by kernel_rfl) (by kernel_rfl) (by kernel_rfl) (by kernel_rfl) (by kernel_rfl) (by kernel_rfl) (by kernel_rfl) (.inl (by decide +kernel)) (bind2 fun v u => by kernel_rfl)
  F119 := fnIs_of hB.kin (by kernel_rfl) (by kernel_rfl) (by kernel_rfl) (by kernel_rfl) (by kernel_rfl) (by kernel_rfl) (by kernel_rfl) (by kernel_rfl) (by kernel_rfl) (by kernel_rfl) (by kernel_rfl) (by kernel_rfl) (.inl (by decide +kernel)) (bind2 fun v u => by kernel_rfl)
  F126 := fnIs_of hB.kin (by kernel_rfl) (by kernel_rfl) (by kernel_rfl) (by kernel_rfl) (by kernel_rfl) (by kernel_rfl) (by kernel_rfl) (by kernel_rfl) (by kernel_rfl) (by kernel_rfl) (by kernel_rfl) (by kernel_rfl) (.inl (by decide +kernel)) (bind1 fun v => by kernel_rfl)
  F133 := fnIs_of hB.kin (by kernel_rfl) (by kernel_rfl) (by kernel_rfl) (by kernel_rfl) (by kernel_rfl) (by kernel_rfl) (by kernel_rfl) (by kernel_rfl) (by kernel_rfl) (by kernel_rfl) (by kernel_rfl) (by kernel_rfl) (.inl (by decide +kernel)) (bind3 fun v u t => by kernel_rfl)
  F140 := fnIs_of hB.kin (by kernel_rfl) (by kernel_rfl) (by kernel_rfl) (by kernel_rfl) (by kernel_rfl) (by kernel_rfl) (by kernel_rfl) (by kernel_rfl) (by kernel_rfl) (by kernel_rfl) (by kernel_rfl) (by kernel_rfl) (.inl (by decide +kernel)) (bind3 fun v u t => by kernel_rfl)
  g100 := .inl (by kernel_rfl)
  g107 := .inl (by kernel_rfl)
  g112 := .inl (by kernel_rfl)
  g119 := .inl (by kernel_rfl)
  g126 := .inl (by kernel_rfl)
  g133 := .inl (by kernel_rfl)
  g140 := .inl (by kernel_rfl)
theorem F145 (hB : Base (KH w) h₀) : FnIs P1 h₀ 145 24 ["script"] := fnIs_of hB.kin (by kernel_rfl) (by kernel_rfl) (by kernel_rfl) (by kernel_rfl) (by kernel_rfl) (by kernel_rfl) (by kernel_rfl) (by kernel_rfl) (by kernel_rfl) (by kernel_rfl) (by kernel_rfl) (by kernel_rfl) (.inl (by decide +kernel)) (bind1 fun v => by kernel_rfl)
end
end Mine
open Mine in
/-- the call of the law, from outside -/
theorem Mine.join_top {w : World} {s₁ : Shared} {p : Program} {loose : List Str} {mean : ExcName → Option Value} {mg mb : Str → Option Value} {ad : Addr} {vs : List Value} {ns : List Int} {Q : Value → Shared → Prop} {E : Value → Shared → Prop} (T : Top p loose mean mg mb s₁.heap) (hT : TabsAt [(85, 81)] s₁.heap) (X : (KH w).In s₁.heap) (hg : s₁.gens = #[])
    (hL : s₁.heap.IsList ad vs.toArray) (hI : IntsAre vs ns) (hn : ns.length ≤ 63)
    (h : ∀ s', Kp false s₁.heap s'.heap → T81 s'.heap → s'.os = s₁.os → s'.gens = #[] → Q (.bool true) s') : wpAny (model P1 w) callerA (call (.ref 145) [.ref ad]) Q E s₁ := by
  have hp : s₁.heap.get? 81 = some (tabObj #[]) := (hT (85, 81) (List.mem_singleton.mpr rfl)).2
  have hB := base_of X T hT (K := KH w) (by kernel_rfl)
  obtain ⟨fd, F, hsc⟩ := F145 hB
  obtain ⟨x, σ', hex, hfz⟩ := law_ok (c := cH w _ hB) (n := 0) (N := 0) (wd1_of hB) ns hn
  obtain ⟨o, ho, hcl, k, hd⟩ := hL
  have hne : ad ≠ 81 := by rintro rfl; rw [hp] at ho; cases ho; cases hcl
  rw [← hsc] at hex
  refine own_top (c := cH w _ hB) (fz := fun b => if b = 81 then none else s₁.heap.get? b) (l := .lst (ns.map .int)) (y := .bool true) F ?_ ?_ hex hfz ⟨rfl, by decide, by decide⟩ (fun b o e => ?_) (fun b o e => ?_) ⟨#[], ?_, hp⟩ (if_pos rfl) ?_ (fun v s' fz' n r => ?_)
  · rw [hsc]; decide +kernel
  · rw [hsc]; kernel_rfl
  · have hb : b ≠ 81 := by
      rintro rfl
      have := hideAll_none [81] (h := s₁.heap) (b := 81) (List.mem_singleton.mpr rfl)
      have e' : (hideAll s₁.heap [81]).get? 81 = some o := e
      rw [this] at e'; cases e'
    rw [if_neg hb]; exact of_hideAll [81] e
  · by_cases hb : b = 81
    · rw [if_pos hb] at e; cases e
    · rw [if_neg hb] at e; exact e
  · exact True.intro
  · have rs := rs_ints hI (fun b => if b = 81 then none else s₁.heap.get? b) ixT
    refine .lst (o := o) (vs := vs.toArray) (n := k) (by rw [List.length_map, sizeLine_eq]; omega) ((if_neg hne).trans ho) hcl hd rs.1 rs.2
  · cases r
    obtain ⟨h', tk, e⟩ := n.same
    exact h s' n.kp n.tab (by rw [e]) (by rw [e]; exact hg)
namespace Mine
theorem said_1 : sreFenced PySem.Challenge.rw_in0038_02.row.prog.main = true := by kernel_rfl
theorem said_2 : namesResolve PySem.Challenge.rw_in0038_02.row.prog = true := by kernel_rfl
theorem said_3 : noRoadLSs { strict := !(importedModules PySem.Challenge.rw_in0038_02.row.prog.main.body).all cThrough.contains, foot := none, bare := List.filter (readsOut PySem.Challenge.rw_in0038_02.row.prog PySem.Challenge.rw_in0038_02.row.prog.main.body) ["vars", "dir", "locals"] } PySem.Challenge.rw_in0038_02.row.prog.main.body = true := by kernel_rfl
theorem said_4 : (namesMeet PySem.Challenge.rw_in0038_02.row.prog PySem.Challenge.rw_in0038_02.row.prog.main.body fun x n => attrL n) = true := by kernel_rfl
theorem said_5 : noRoadLSs { strict := true, foot := some PySem.Challenge.rw_in0038_02.bound', writes := PySem.Challenge.rw_in0038_02.writes, may := PySem.Challenge.rw_in0038_02.may } PySem.Challenge.rw_in0038_02.footing = true := by kernel_rfl
theorem said_6 : (PySem.Challenge.rw_in0038_02.bound'.all fun n => !builtinNamed n || PySem.Challenge.rw_in0038_02.about == [n] || !PySem.Challenge.rw_in0038_02.reads n) = true := by kernel_rfl
theorem law_said : PySem.Challenge.rw_in0038_02.wellSaid = true := by
  unfold OpenLaw.wellSaid
  repeat' with_reducible apply look_both
  all_goals try unfold OpenRow.wellSaid
  all_goals try unfold OpenRow.partSaid
  all_goals try unfold looksOpen
  repeat' with_reducible apply look_both
  all_goals first | with_reducible exact said_1 | with_reducible exact said_2 | with_reducible exact said_3 | with_reducible exact said_4 | with_reducible exact said_5 | with_reducible exact said_6 | kernel_rfl
end Mine
open Mine in
noncomputable abbrev Mine.lawRec : DefRec := { name := Str.ofString "law", params := paramsAt P1 24, body := bodyAt P1 24, scope := scopeAt P1 24, pos := posAt P1 24 }
set_option maxHeartbeats 8000000 in
theorem Mine.hdS (walk : WalkO Mine.viewS Mine.looseS (XL Mine.viewS []) Mine.HKS.says Mine.RS Mine.lawRec [] fun f vs => PySem.call f vs) : PySem.Challenge.rw_in0038_02.Holds := by
  refine holds_law Mine.law_said fun said => ?_
  exact PySem.W.holds_open (q := Mine.viewS) (loose := Mine.looseS) (Xt := Mine.XtS) (XP := XL Mine.viewS []) (Yf := Mine.HKS.obs) (Ya := Mine.HKS.val) (YP := Mine.HKS.says) (N := 4094) (d := Mine.lawRec) (kwd := []) Mine.left_all (Hook.of Mine.HKS) (Hook.keeps Mine.HKS) (fun s e => xl_of s (Bool.and_eq_true_iff.mp e).1) XL.keeps (by kernel_rfl) (by kernel_rfl) (by kernel_rfl) (fun s e => recFacts_of (Bool.and_eq_true_iff.mp e).2) (by kernel_rfl) (by assumption) (by decide +kernel) ⟨rfl, rfl, rfl, rfl, rfl, by decide +kernel⟩ ⟨[.list []], by decide +kernel, by decide +kernel⟩ walk
set_option maxHeartbeats 8000000 in
theorem Mine.join2 : PySem.Challenge.rw_in0038_02.Holds := by
  refine Mine.hdS ?_
  intro w s₀ s₁ mg mb G Y fa o pm cd doc dV kV ho hd hcd hD hmg hg args vals as hpre hlay hrd hwl hlo
  have KX := km_in_of Y
  have hT8 := km_tabs_of Y
  refine Ground.open G ?_
  intro T B D TE TW
  have hT9 : TabsAt [(85, 81)] s₁.heap := fun q hq => by
    rw [List.mem_singleton.mp hq]
    exact ⟨codeHd_of_K (c := 85) (P := 81) KX (by kernel_rfl), hT8 81 (List.mem_singleton.mpr rfl)⟩
  have hfa : fa = 145 := by
    have e1 := mg_of (n := PySem.Str.ofString "law") (v := .ref 145) KX T.g (by kernel_rfl)
    have e2 : mg (PySem.Str.ofString "law") = some (.ref fa) := hmg
    rw [e1] at e2
    cases e2; rfl
  subst hfa
  clear hd hcd hD hmg ho D TE TW B Y
  wrow_args hpre hlay hrd hwl hlo
  rename_i ns hs hlay0 hL0 hr0 hl0 as1 as2 ad vs as3 hL ra hW r0 hI hr1 hlen htr
  have hlen' : ns.length ≤ 63 := by omega
  refine Mine.join_top T hT9 KX hg hL hI hlen' (fun s' k t81 hos hgens => ?_)
  refine ⟨.inl ⟨.bool true, ofPy (.bool true), [], rfl, fun _ => rfl, ?_, ?_, fun _ => ⟨.nil, fun a ha => by cases ha⟩⟩, old_of hT9 k t81, hos, .of_eq hgens⟩
  · exact readsW_of_reads (.bool true)
  · kernel_rfl
theorem PySem.Challenge.cw_in0038_02_holds : PySem.Challenge.rw_in0038_02.Holds := by
  exact Mine.join2

end
