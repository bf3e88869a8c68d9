import PyProof.Rows.All
import Wide.All
import OpenK.AllK
import Wide.FinOn
import PySem.Challenge.RW_zo0036_01
open PySem PySem.W PyProof.Rows
set_option Elab.async false
set_option maxRecDepth 100000
set_option linter.unusedVariables false
set_option autoImplicit false
set_option compiler.extract_closed false
set_option genSizeOfSpec false
set_option genInjectivity false
namespace Mine
set_option maxHeartbeats 8000000 in
open_top hd for PySem.Challenge.rw_zo0036_01
end Mine
namespace Mine
open PySem PySem.W PyProof.Rows PySem.Calls

/-- a def made within a def: what its function object holds -/
structure CloT where
  name : Str
  qual : Str
  params : Arguments
  body : List Stmt
  scope : Scope

/-- abstract values -/
inductive SV where
  | none
  | bool (b : Bool)
  | int (i : Int)
  | str (x : Str)
  | fix (v : Value)
  | obj (i : Nat)
  | inst (C : Addr) (i : Nat)
  | tup (xs : List SV)
  | clos (k : CloT) (cs : List (Str × Nat))
  | meth (f : Value) (self : SV)
  | mtch (x : Str) (i j : Nat)
  | rng (n : Int)
  | slice (lo hi st : Option Int)

/-- abstract tracked objects -/
inductive SObj where
  | list (xs : List SV)
  | dict (fs : List (Str × SV))
  | cell (v : Option SV)
  | listIt (l i : Nat)
  | revIt (l : Nat) (i : Int)
  | rangeIt (x left : Int)
  | strIt (x : Str) (i : Nat)
  | callIt (f : SV)
  | callEnd
  | set (xs : List Int)
  | junk

noncomputable def cloFd (k : CloT) (closure : List (Str × Addr)) (tup pm cd doc : Value) (an : Option Addr) : FuncData :=
  { name := k.name, qualname := k.qual, params := k.params, body := .stmts k.body, scope := k.scope, globals := mainGlobals, closure := closure,
    defaults := .none, kwdefaults := .none, doc := doc, pyModule := pm, annotations := an, code := cd, closureTuple := tup, builtins := builtinsNs }

noncomputable def addrsOf (ρ : List Addr) (cs : List (Str × Nat)) : List (Str × Addr) := cs.map fun x => (x.1, ρ.getD x.2 0)

/-- the tables of the four defs that make defs -/
noncomputable def TB : List Addr := [83, 76, 48, 172]

/-- an object that nobody turns: no dict, no code table -/
noncomputable def Imm (b : Addr) (o : Obj) : Prop := (∀ es n, o.data ≠ .dict es n) ∧ (o.cls ≠ .none ∨ b ∉ TB)

/-- the kinds of object that are turned -/
noncomputable def iters : List String := ["list_iterator", "list_reverseiterator", "range_iterator", "str_ascii_iterator", "callable_iterator"]
noncomputable def Tracked (o : Obj) : Prop := (∃ es n, o.data = .dict es n) ∨ (∃ v, o.data = .cell v) ∨ (∃ es n t, o.data = .set es n t) ∨ (o.cls = .type "list" ∧ ∃ xs n, o.data = .seq xs n) ∨
  (∃ vs, o.data = .fields vs ∧ (∃ T ∈ iters, o.cls = .type T) ∧ ∀ q t, vs[1]? = some (.str q t) → q = Str.empty)
theorem nt_func {o : Obj} {fd : FuncData} (h : o.data = .func fd) : ¬ Tracked o := by
  rintro (⟨_, _, q⟩ | ⟨_, q⟩ | ⟨_, _, _, q⟩ | ⟨_, _, _, q⟩ | ⟨_, q, _⟩) <;> (rw [h] at q; cases q)
theorem nt_code {o : Obj} {vs : Array Value} {q : Str} {t : Tok} (h : o.data = .fields vs) (h1 : vs[1]? = some (.str q t)) (hq : q ≠ Str.empty) : ¬ Tracked o := by
  rintro (⟨_, _, e⟩ | ⟨_, e⟩ | ⟨_, _, _, e⟩ | ⟨_, _, _, e⟩ | ⟨_, e, _, e2⟩) <;> rw [h] at e <;> cases e
  exact hq (e2 q t h1)
theorem nt_fields {T : String} {d : Option Addr} {vs : Array Value} {sl : Array (Option Value)} (h2 : T ∉ iters) : ¬ Tracked ⟨.type T, d, .fields vs, sl⟩ := by
  rintro (⟨_, _, e⟩ | ⟨_, e⟩ | ⟨_, _, _, e⟩ | ⟨_, _, _, e⟩ | ⟨_, e, ⟨T', hT, e2⟩, _⟩) <;> try cases e
  have : T = T' := by simpa using e2
  exact h2 (this ▸ hT)
theorem nt_tuple {d : Option Addr} {vs : Array Value} {n : Nat} {sl : Array (Option Value)} : ¬ Tracked ⟨.type "tuple", d, .seq vs n, sl⟩ := by
  rintro (⟨_, _, e⟩ | ⟨_, e⟩ | ⟨_, _, _, e⟩ | ⟨e, _⟩ | ⟨_, e, _⟩) <;> first | cases e | (simp at e)
theorem nt_plain {c : Addr} {d : Option Addr} {sl : Array (Option Value)} : ¬ Tracked ⟨.ref c, d, .plain, sl⟩ := by
  rintro (⟨_, _, e⟩ | ⟨_, e⟩ | ⟨_, _, _, e⟩ | ⟨_, _, _, e⟩ | ⟨_, e, _⟩) <;> cases e

inductive RepV (ρ : List Addr) (h : Heap) : SV → Value → Prop
  | none : RepV ρ h .none .none
  | bool (b : Bool) : RepV ρ h (.bool b) (.bool b)
  | int (i : Int) (t : Tok) : RepV ρ h (.int i) (.int i t)
  | str (x : Str) (t : Tok) : RepV ρ h (.str x) (.str x t)
  | fix (v : Value) : RepV ρ h (.fix v) v
  | obj {i : Nat} {a : Addr} : ρ[i]? = some a → RepV ρ h (.obj i) (.ref a)
  | inst {C : Addr} {i : Nat} {a d : Addr} : h.get? a = some ⟨.ref C, some d, .plain, #[]⟩ → ρ[i]? = some d → RepV ρ h (.inst C i) (.ref a)
  | tup {xs : List SV} {vs : List Value} {a : Addr} {n : Nat} : h.get? a = some ⟨.type "tuple", none, .seq vs.toArray n, #[]⟩ → xs.length = vs.length →
      (∀ (i : Nat) (x : SV) (v : Value), xs[i]? = some x → vs[i]? = some v → RepV ρ h x v) → RepV ρ h (.tup xs) (.ref a)
  | clos {k : CloT} {cs : List (Str × Nat)} {a c : Addr} {o oc : Obj} {tup pm doc : Value} {an : Option Addr} {vs : Array Value} {t : Tok} : h.get? a = some o → o.cls = .type "function" →
      o.data = .func (cloFd k (addrsOf ρ cs) tup pm (.ref c) doc an) → (∀ x ∈ cs, x.2 < ρ.length) →
      h.get? c = some oc → c ∉ TB → oc.data = .fields vs → vs[1]? = some (.str k.qual t) → ¬ Tracked oc → RepV ρ h (.clos k cs) (.ref a)
  | meth {f : Value} {self : SV} {v : Value} {a : Addr} : h.get? a = some ⟨.type "method", none, .fields #[f, v], #[]⟩ → RepV ρ h self v → RepV ρ h (.meth f self) (.ref a)
  | mtch {x : Str} {i j lim : Nat} {t : Tok} {p : Value} {a b : Addr} {n : Nat} {k : Int} : h.get? a = some ⟨.type "re.Match", none, .fields #[.str x t, p, rawInt 0, rawInt lim, rawInt k, .ref b], #[]⟩ →
      h.get? b = some ⟨.type "tuple", none, .seq #[rawInt i, rawInt j] n, #[]⟩ → RepV ρ h (.mtch x i j) (.ref a)
  | slice {lo hi st : Option Int} {a : Addr} {vl vu vs : Value} : h.get? a = some ⟨.type "slice", none, .fields #[vl, vu, vs], #[]⟩ → IsPart vl lo → IsPart vu hi → IsPart vs st → RepV ρ h (.slice lo hi st) (.ref a)
  | rng {n : Int} {a : Addr} {t u v : Tok} : h.get? a = some ⟨.type "range", none, .fields #[.int 0 t, .int n u, .int 1 v], #[]⟩ → RepV ρ h (.rng n) (.ref a)

/-- what an abstract value says of the value; one lemma for all cases -/
noncomputable def RepV.K (ρ : List Addr) (h : Heap) (P : Value → Prop) (x : SV) : Prop := match x with
  | .none => P .none
  | .bool b => P (.bool b)
  | .int i => ∀ t : Tok, P (.int i t)
  | .str x => ∀ t : Tok, P (.str x t)
  | .fix u => P u
  | .obj i => ∀ a : Addr, ρ[i]? = some a → P (.ref a)
  | .inst C i => ∀ a d : Addr, h.get? a = some ⟨.ref C, some d, .plain, #[]⟩ → ρ[i]? = some d → P (.ref a)
  | .tup xs => ∀ (vs : List Value) (a : Addr) (n : Nat), h.get? a = some ⟨.type "tuple", Option.none, .seq vs.toArray n, #[]⟩ → xs.length = vs.length →
      (∀ (i : Nat) (x : SV) (v : Value), xs[i]? = some x → vs[i]? = some v → RepV ρ h x v) → P (.ref a)
  | .clos k cs => ∀ (a c : Addr) (o oc : Obj) (tup pm doc : Value) (an : Option Addr) (vs : Array Value) (t : Tok), h.get? a = some o → o.cls = .type "function" →
      o.data = .func (cloFd k (addrsOf ρ cs) tup pm (.ref c) doc an) → (∀ x ∈ cs, x.2 < ρ.length) →
      h.get? c = some oc → c ∉ TB → oc.data = .fields vs → vs[1]? = some (.str k.qual t) → ¬ Tracked oc → P (.ref a)
  | .meth f self => ∀ (v : Value) (a : Addr), h.get? a = some ⟨.type "method", Option.none, .fields #[f, v], #[]⟩ → RepV ρ h self v → P (.ref a)
  | .mtch x i j => ∀ (lim : Nat) (t : Tok) (p : Value) (a b : Addr) (n : Nat) (k : Int), h.get? a = some ⟨.type "re.Match", Option.none, .fields #[.str x t, p, rawInt 0, rawInt lim, rawInt k, .ref b], #[]⟩ →
      h.get? b = some ⟨.type "tuple", Option.none, .seq #[rawInt i, rawInt j] n, #[]⟩ → P (.ref a)
  | .slice lo hi st => ∀ (a : Addr) (vl vu vs : Value), h.get? a = some ⟨.type "slice", Option.none, .fields #[vl, vu, vs], #[]⟩ → IsPart vl lo → IsPart vu hi → IsPart vs st → P (.ref a)
  | .rng n => ∀ (a : Addr) (t u v : Tok), h.get? a = some ⟨.type "range", Option.none, .fields #[.int 0 t, .int n u, .int 1 v], #[]⟩ → P (.ref a)
theorem RepV.elim {ρ : List Addr} {h : Heap} {x : SV} {v : Value} (r : RepV ρ h x v) {P : Value → Prop} : RepV.K ρ h P x → P v := by
  cases r with
  | none => exact id
  | bool b => exact id
  | int i t => exact fun k => k t
  | str x t => exact fun k => k t
  | fix v => exact id
  | obj e => exact fun k => k _ e
  | inst e e2 => exact fun k => k _ _ e e2
  | tup e l g => exact fun k => k _ _ _ e l g
  | clos e1 e2 e3 e4 e5 e6 e7 e8 e9 => exact fun k => k _ _ _ _ _ _ _ _ _ _ e1 e2 e3 e4 e5 e6 e7 e8 e9
  | meth e r => exact fun k => k _ _ e r
  | mtch e e2 => exact fun k => k _ _ _ _ _ _ _ e e2
  | slice e p q s => exact fun k => k _ _ _ _ e p q s
  | rng e => exact fun k => k _ _ _ _ e

theorem RepV.noneE {ρ : List Addr} {h : Heap} {v : Value} (r : RepV ρ h .none v) : v = .none := by
  apply RepV.elim r; rfl
theorem RepV.strE {ρ : List Addr} {h : Heap} {x : Str} {v : Value} (r : RepV ρ h (.str x) v) : ∃ t, v = .str x t := by
  apply RepV.elim r; intro t; exact ⟨t, rfl⟩
noncomputable def RepVs (ρ : List Addr) (h : Heap) (xs : List SV) (vs : List Value) : Prop := xs.length = vs.length ∧ ∀ (i : Nat) (x : SV) (v : Value), xs[i]? = some x → vs[i]? = some v → RepV ρ h x v

/-- the step from one heap to a later one, as what is not tracked sees it -/
structure Mono (ρ : List Addr) (h : Heap) (ρ' : List Addr) (h' : Heap) : Prop where
  pre : ∃ t, ρ' = ρ ++ t ∧ ∀ a ∈ t, h.get? a = none
  keep : ∀ b o, h.get? b = some o → (b ∉ ρ ∨ ¬ Tracked o) → Imm b o → h'.get? b = some o

theorem Mono.refl (ρ : List Addr) (h : Heap) : Mono ρ h ρ h := ⟨⟨[], by simp, by simp⟩, fun _ _ e _ _ => e⟩
theorem Mono.idx {ρ ρ' : List Addr} {h h' : Heap} (m : Mono ρ h ρ' h') {i : Nat} {a : Addr} (e : ρ[i]? = some a) : ρ'[i]? = some a := by
  obtain ⟨⟨t, rfl, _⟩, _⟩ := m
  rw [List.getElem?_append_left]
  · exact e
  · exact (List.getElem?_eq_some_iff.mp e).1
theorem Mono.not_mem {ρ ρ' : List Addr} {h h' : Heap} (m : Mono ρ h ρ' h') {a : Addr} {o : Obj} (e : h.get? a = some o) (ha : a ∉ ρ) : a ∉ ρ' := by
  obtain ⟨⟨t, rfl, ht⟩, _⟩ := m
  intro hm
  rcases List.mem_append.mp hm with h1 | h1
  · exact ha h1
  · rw [ht a h1] at e; cases e
theorem Mono.addrs {ρ ρ' : List Addr} {h h' : Heap} (m : Mono ρ h ρ' h') {cs : List (Str × Nat)} (hc : ∀ x ∈ cs, x.2 < ρ.length) : addrsOf ρ' cs = addrsOf ρ cs := by
  obtain ⟨⟨t, rfl, ht⟩, _⟩ := m
  unfold addrsOf
  apply List.map_congr_left
  intro x hx
  have := hc x hx
  simp [List.getD_eq_getElem?_getD, List.getElem?_append_left this]
theorem Mono.len {ρ ρ' : List Addr} {h h' : Heap} (m : Mono ρ h ρ' h') : ρ.length ≤ ρ'.length := by
  obtain ⟨⟨t, rfl, ht⟩, _⟩ := m
  simp

theorem Mono.trans {ρ ρ₁ ρ₂ : List Addr} {h h₁ h₂ : Heap} (m : Mono ρ h ρ₁ h₁) (m' : Mono ρ₁ h₁ ρ₂ h₂) (live : ∀ a o, h.get? a = some o → ∃ o', h₁.get? a = some o') : Mono ρ h ρ₂ h₂ := by
  obtain ⟨⟨t, e1, k1⟩, kp⟩ := id m
  obtain ⟨⟨t', e2, k2⟩, kp'⟩ := m'
  refine ⟨⟨t ++ t', by rw [e2, e1, List.append_assoc], fun a ha => ?_⟩, fun b o e hb hi => kp' b o (kp b o e hb hi) (hb.imp (m.not_mem e) id) hi⟩
  rcases List.mem_append.mp ha with x | x
  · exact k1 a x
  · cases q : h.get? a with
    | none => rfl
    | some o =>
      obtain ⟨o', e'⟩ := live a o q
      rw [k2 a x] at e'; cases e'
theorem Mono.of_keep {ρ : List Addr} {h h' : Heap} (k : ∀ b o, h.get? b = some o → h'.get? b = some o) : Mono ρ h ρ h' := ⟨⟨[], by simp, by simp⟩, fun b o e _ _ => k b o e⟩

theorem RepV.mono {ρ ρ' : List Addr} {h h' : Heap} (m : Mono ρ h ρ' h') {x : SV} {v : Value} (r : RepV ρ h x v) : RepV ρ' h' x v := by
  have im : ∀ {a : Addr} {T : String} {d : Option Addr} {dt : Data} {sl : Array (Option Value)}, (∀ es n, dt ≠ .dict es n) → Imm a ⟨.type T, d, dt, sl⟩ := fun hd => ⟨hd, .inl (by simp)⟩
  induction r with
  | none => exact .none
  | bool b => exact .bool b
  | int i t => exact .int i t
  | str x t => exact .str x t
  | fix v => exact .fix v
  | obj e => exact .obj (m.idx e)
  | inst e ei => exact .inst (m.keep _ _ e (.inr nt_plain) ⟨by intro _ _; simp, .inl (by simp)⟩) (m.idx ei)
  | tup e hl _ ih => exact .tup (m.keep _ _ e (.inr nt_tuple) (im (by intro _ _; simp))) hl ih
  | clos e hc hd hcs ec hcc hdc hv hq =>
    refine .clos (m.keep _ _ e (.inr (nt_func hd)) ⟨by intro _ _; rw [hd]; simp, .inl (by rw [hc]; simp)⟩) hc (by rw [m.addrs hcs]; exact hd) (fun x hx => Nat.lt_of_lt_of_le (hcs x hx) m.len)
      (m.keep _ _ ec (.inr hq) ⟨by intro _ _; rw [hdc]; simp, .inr hcc⟩) hcc hdc hv hq
  | meth e _ ih => exact .meth (m.keep _ _ e (.inr (nt_fields (by decide))) (im (by intro _ _; simp))) ih
  | mtch e e2 => exact .mtch (m.keep _ _ e (.inr (nt_fields (by decide))) (im (by intro _ _; simp))) (m.keep _ _ e2 (.inr nt_tuple) (im (by intro _ _; simp)))
  | slice e p1 p2 p3 => exact .slice (m.keep _ _ e (.inr (nt_fields (by decide))) (im (by intro _ _; simp))) p1 p2 p3
  | rng e => exact .rng (m.keep _ _ e (.inr (nt_fields (by decide))) (im (by intro _ _; simp)))

theorem RepVs.mono {ρ ρ' : List Addr} {h h' : Heap} (m : Mono ρ h ρ' h') {xs : List SV} {vs : List Value} (r : RepVs ρ h xs vs) : RepVs ρ' h' xs vs :=
  ⟨r.1, fun i x v e1 e2 => (r.2 i x v e1 e2).mono m⟩

theorem RepVs.nil {ρ : List Addr} {h : Heap} : RepVs ρ h [] [] := ⟨rfl, fun i x v e => by simp at e⟩
theorem RepVs.cons {ρ : List Addr} {h : Heap} {x : SV} {v : Value} {xs : List SV} {vs : List Value} (r : RepV ρ h x v) (rs : RepVs ρ h xs vs) : RepVs ρ h (x :: xs) (v :: vs) := by
  refine ⟨by simp [rs.1], fun i y u e1 e2 => ?_⟩
  cases i with
  | zero => simp at e1 e2; subst e1; subst e2; exact r
  | succ i => simp at e1 e2; exact rs.2 i y u e1 e2
theorem RepVs.uncons {ρ : List Addr} {h : Heap} {x : SV} {xs : List SV} {vs : List Value} (r : RepVs ρ h (x :: xs) vs) : ∃ v r', vs = v :: r' ∧ RepV ρ h x v ∧ RepVs ρ h xs r' := by
  cases vs with
  | nil => have := r.1; simp at this
  | cons v r' =>
    refine ⟨v, r', rfl, r.2 0 x v rfl rfl, by have := r.1; simpa using this, fun i y u e1 e2 => r.2 (i + 1) y u (by simpa using e1) (by simpa using e2)⟩
theorem RepVs.unnil {ρ : List Addr} {h : Heap} {vs : List Value} (r : RepVs ρ h [] vs) : vs = [] := by
  have := r.1; cases vs with
  | nil => rfl
  | cons => simp at this

theorem RepVs.elim0 {ρ : List Addr} {h : Heap} {vs : List Value} (r : RepVs ρ h [] vs) {P : List Value → Prop} (k : P []) : P vs := r.unnil ▸ k
theorem RepVs.elim1 {ρ : List Addr} {h : Heap} {x : SV} {xs : List SV} {vs : List Value} (r : RepVs ρ h (x :: xs) vs) {P : List Value → Prop} (k : ∀ v us, RepV ρ h x v → RepVs ρ h xs us → P (v :: us)) : P vs :=
  let ⟨v, us, e, r1, r2⟩ := r.uncons; e ▸ k v us r1 r2

/-- a name table: what it says at least -/
noncomputable def NsRep (ρ : List Addr) (h : Heap) (fs : List (Str × SV)) (m : Str → Option Value) : Prop :=
  ∀ x y, fs.lookup x = some y → ∃ v, m x = some v ∧ RepV ρ h y v

theorem NsRep.mono {ρ ρ' : List Addr} {h h' : Heap} (M : Mono ρ h ρ' h') {fs : List (Str × SV)} {m : Str → Option Value} (r : NsRep ρ h fs m) : NsRep ρ' h' fs m := fun x y e =>
  let ⟨v, e1, e2⟩ := r x y e; ⟨v, e1, e2.mono M⟩

noncomputable def CellRep (ρ : List Addr) (h : Heap) : Option SV → Option Value → Prop
  | some x, some v => RepV ρ h x v
  | none, none => True
  | _, _ => False
theorem CellRep.mono {ρ ρ' : List Addr} {h h' : Heap} (M : Mono ρ h ρ' h') {x : Option SV} {v : Option Value} (r : CellRep ρ h x v) : CellRep ρ' h' x v := by
  cases x <;> cases v <;> first | exact r | exact RepV.mono M r

/-- a table's entries -/
inductive RepD (ρ : List Addr) (h : Heap) : List DictEntry → List (Str × SV) → Prop
  | nil : RepD ρ h [] []
  | cons {e : DictEntry} {es : List DictEntry} {x : Str} {t : Tok} {y : SV} {fs : List (Str × SV)} : e.key = .str x t → RepV ρ h y e.val → RepD ρ h es fs → RepD ρ h (e :: es) ((x, y) :: fs)
theorem RepD.mono {ρ ρ' : List Addr} {h h' : Heap} (M : Mono ρ h ρ' h') {es : List DictEntry} {fs : List (Str × SV)} (r : RepD ρ h es fs) : RepD ρ' h' es fs := by
  induction r with
  | nil => exact .nil
  | cons e1 r _ ih => exact .cons e1 (r.mono M) ih
theorem RepD.length {ρ : List Addr} {h : Heap} {es : List DictEntry} {fs : List (Str × SV)} (r : RepD ρ h es fs) : es.length = fs.length := by
  induction r with
  | nil => rfl
  | cons _ _ _ ih => simp [ih]

inductive RepO (ρ : List Addr) (h : Heap) : SObj → Addr → Prop
  | list {xs : List SV} {vs : List Value} {n : Nat} {a : Addr} : h.get? a = some ⟨.type "list", none, .seq vs.toArray n, #[]⟩ → RepVs ρ h xs vs → RepO ρ h (.list xs) a
  | dict {fs : List (Str × SV)} {es : List DictEntry} {n : Nat} {a : Addr} : h.get? a = some (dictOf es n) → RepD ρ h es fs → RepO ρ h (.dict fs) a
  | cell {x : Option SV} {v : Option Value} {o : Obj} {a : Addr} : h.get? a = some o → o.data = .cell v → CellRep ρ h x v → RepO ρ h (.cell x) a
  | listIt {l i : Nat} {b a : Addr} {o : Obj} : h.get? a = some o → o.cls = .type "list_iterator" → o.data = .fields #[.ref b, .int i 0] → ρ[l]? = some b → RepO ρ h (.listIt l i) a
  | revIt {l : Nat} {i : Int} {b a : Addr} {o : Obj} : h.get? a = some o → o.cls = .type "list_reverseiterator" → o.data = .fields #[.ref b, rawInt i] → ρ[l]? = some b → RepO ρ h (.revIt l i) a
  | rangeIt {x left : Int} {a : Addr} : IsRangeIter h a x left 1 → RepO ρ h (.rangeIt x left) a
  | strIt {x : Str} {i : Nat} {t : Tok} {a : Addr} {o : Obj} : h.get? a = some o → o.cls = .type "str_ascii_iterator" → o.data = .fields #[.str x t, .int i 0] → RepO ρ h (.strIt x i) a
  | callIt {f : SV} {v : Value} {t : Tok} {a : Addr} : h.get? a = some ⟨.type "callable_iterator", none, .fields #[v, .str Str.empty t, .bool false], #[]⟩ → RepV ρ h f v → RepO ρ h (.callIt f) a
  | set {xs : List Int} {o : Obj} {es : Array (Int × Value)} {ep : Nat} {t : SetTable} {a : Addr} : h.get? a = some o → o.ExactSet → o.data = .set es ep t → es.size = xs.length →
      (∀ (i : Nat) (x : Int), xs[i]? = some x → ∃ tk, es[i]? = some (hashInt x, .int x tk)) → t.fits es.size = true → RepO ρ h (.set xs) a
  | callEnd {o : Obj} {a : Addr} : h.get? a = some o → o.cls = .type "callable_iterator" → o.data = .fields #[.none, .none, .bool true] → RepO ρ h .callEnd a
  | junk {o : Obj} {a : Addr} : h.get? a = some o → Tracked o → RepO ρ h .junk a

noncomputable def RepO.K (ρ : List Addr) (h : Heap) (a : Addr) (P : Prop) (x : SObj) : Prop := match x with
  | .list xs => ∀ (vs : List Value) (n : Nat), h.get? a = some ⟨.type "list", none, .seq vs.toArray n, #[]⟩ → RepVs ρ h xs vs → P
  | .dict fs => ∀ (es : List DictEntry) (n : Nat), h.get? a = some (dictOf es n) → RepD ρ h es fs → P
  | .cell x => ∀ (v : Option Value) (o : Obj), h.get? a = some o → o.data = .cell v → CellRep ρ h x v → P
  | .listIt l i => ∀ (b : Addr) (o : Obj), h.get? a = some o → o.cls = .type "list_iterator" → o.data = .fields #[.ref b, .int i 0] → ρ[l]? = some b → P
  | .revIt l i => ∀ (b : Addr) (o : Obj), h.get? a = some o → o.cls = .type "list_reverseiterator" → o.data = .fields #[.ref b, rawInt i] → ρ[l]? = some b → P
  | .rangeIt x left => IsRangeIter h a x left 1 → P
  | .strIt x i => ∀ (t : Tok) (o : Obj), h.get? a = some o → o.cls = .type "str_ascii_iterator" → o.data = .fields #[.str x t, .int i 0] → P
  | .callIt f => ∀ (v : Value) (t : Tok), h.get? a = some ⟨.type "callable_iterator", none, .fields #[v, .str Str.empty t, .bool false], #[]⟩ → RepV ρ h f v → P
  | .set xs => ∀ (o : Obj) (es : Array (Int × Value)) (ep : Nat) (t : SetTable), h.get? a = some o → o.ExactSet → o.data = .set es ep t → es.size = xs.length →
      (∀ (i : Nat) (x : Int), xs[i]? = some x → ∃ tk, es[i]? = some (hashInt x, .int x tk)) → t.fits es.size = true → P
  | .callEnd => ∀ (o : Obj), h.get? a = some o → o.cls = .type "callable_iterator" → o.data = .fields #[.none, .none, .bool true] → P
  | .junk => ∀ (o : Obj), h.get? a = some o → Tracked o → P
theorem RepO.elim {ρ : List Addr} {h : Heap} {x : SObj} {a : Addr} (r : RepO ρ h x a) {P : Prop} : RepO.K ρ h a P x → P := by
  cases r with
  | list e1 r => exact fun k => k _ _ e1 r
  | dict e1 r => exact fun k => k _ _ e1 r
  | cell e1 e2 r => exact fun k => k _ _ e1 e2 r
  | listIt e1 e2 e3 e4 => exact fun k => k _ _ e1 e2 e3 e4
  | revIt e1 e2 e3 e4 => exact fun k => k _ _ e1 e2 e3 e4
  | rangeIt e1 => exact fun k => k e1
  | strIt e1 e2 e3 => exact fun k => k _ _ e1 e2 e3
  | callIt e1 r => exact fun k => k _ _ e1 r
  | set e1 e2 e3 e4 e5 e6 => exact fun k => k _ _ _ _ e1 e2 e3 e4 e5 e6
  | callEnd e1 e2 e3 => exact fun k => k _ e1 e2 e3
  | junk e1 e2 => exact fun k => k _ e1 e2

theorem RepO.mono {ρ ρ' : List Addr} {h h' : Heap} (M : Mono ρ h ρ' h') {x : SObj} {a : Addr} (e : h'.get? a = h.get? a) (r : RepO ρ h x a) : RepO ρ' h' x a := by
  cases r with
  | list e1 r => exact .list (e.trans e1) (r.mono M)
  | dict e1 r => exact .dict (e.trans e1) (r.mono M)
  | cell e1 e2 r => exact .cell (e.trans e1) e2 (r.mono M)
  | listIt e1 e2 e3 e4 => exact .listIt (e.trans e1) e2 e3 (M.idx e4)
  | revIt e1 e2 e3 e4 => exact .revIt (e.trans e1) e2 e3 (M.idx e4)
  | rangeIt e1 => exact .rangeIt (e.trans e1)
  | strIt e1 e2 e3 => exact .strIt (e.trans e1) e2 e3
  | callIt e1 r => exact .callIt (e.trans e1) (r.mono M)
  | set e1 e2 e3 e4 e5 e6 => exact .set (e.trans e1) e2 e3 e4 e5 e6
  | callEnd e1 e2 e3 => exact .callEnd (e.trans e1) e2 e3
  | junk e1 e2 => exact .junk (e.trans e1) e2

/-- every number of an object named lies below n -/
inductive SV.Lt (n : Nat) : SV → Prop
  | none : SV.Lt n .none
  | bool (b : Bool) : SV.Lt n (.bool b)
  | int (i : Int) : SV.Lt n (.int i)
  | str (x : Str) : SV.Lt n (.str x)
  | fix (v : Value) : SV.Lt n (.fix v)
  | obj {i : Nat} : i < n → SV.Lt n (.obj i)
  | inst {C : Addr} {i : Nat} : i < n → SV.Lt n (.inst C i)
  | tup {xs : List SV} : (∀ (i : Nat) (x : SV), xs[i]? = some x → SV.Lt n x) → SV.Lt n (.tup xs)
  | clos {k : CloT} {cs : List (Str × Nat)} : (∀ x ∈ cs, x.2 < n) → SV.Lt n (.clos k cs)
  | meth {f : Value} {self : SV} : SV.Lt n self → SV.Lt n (.meth f self)
  | mtch (x : Str) (i j : Nat) : SV.Lt n (.mtch x i j)
  | rng (k : Int) : SV.Lt n (.rng k)
  | slice (lo hi st : Option Int) : SV.Lt n (.slice lo hi st)

noncomputable def SV.LtK (n : Nat) (x : SV) : Prop := match x with
  | .obj i => i < n
  | .inst _ i => i < n
  | .tup xs => ∀ (i : Nat) (x : SV), xs[i]? = some x → SV.Lt n x
  | .clos _ cs => ∀ x ∈ cs, x.2 < n
  | .meth _ s => SV.Lt n s
  | _ => True
theorem SV.Lt.inv {n : Nat} {x : SV} (l : SV.Lt n x) : SV.LtK n x := by
  cases l <;> first | exact trivial | assumption
theorem idx_lt {ρ : List Addr} {i : Nat} {a : Addr} (e : ρ[i]? = some a) : i < ρ.length := (List.getElem?_eq_some_iff.mp e).1
theorem RepV.lt {ρ : List Addr} {h : Heap} {x : SV} {v : Value} (r : RepV ρ h x v) : SV.Lt ρ.length x := by
  induction r with
  | none => exact .none
  | bool b => exact .bool b
  | int i t => exact .int i
  | str x t => exact .str x
  | fix v => exact .fix v
  | obj e => exact .obj (idx_lt e)
  | inst e ei => exact .inst (idx_lt ei)
  | @tup xs vs a n e hl _ ih =>
    refine .tup fun i x ex => ?_
    have hi : i < vs.length := by rw [← hl]; exact (List.getElem?_eq_some_iff.mp ex).1
    exact ih i x _ ex (List.getElem?_eq_getElem hi)
  | clos e hc hd hcs ec hcc hdc hv hnc => exact .clos hcs
  | meth e _ ih => exact .meth ih
  | mtch e e2 => exact .mtch _ _ _
  | slice => exact .slice _ _ _
  | rng e => exact .rng _
theorem take_idx {ρ : List Addr} {i n : Nat} {a : Addr} (e : ρ[i]? = some a) (h : i < n) : (ρ.take n)[i]? = some a := by
  rw [List.getElem?_take_of_lt h]; exact e
theorem addrs_take {ρ : List Addr} {n : Nat} {cs : List (Str × Nat)} (hc : ∀ x ∈ cs, x.2 < n) : addrsOf (ρ.take n) cs = addrsOf ρ cs := by
  unfold addrsOf
  apply List.map_congr_left
  intro x hx
  have := hc x hx
  simp [List.getD_eq_getElem?_getD, List.getElem?_take_of_lt this]
theorem RepV.take {ρ : List Addr} {h : Heap} {n : Nat} {x : SV} {v : Value} (r : RepV ρ h x v) (l : SV.Lt n x) (hn : n ≤ ρ.length) : RepV (ρ.take n) h x v := by
  induction r with
  | none => exact .none
  | bool b => exact .bool b
  | int i t => exact .int i t
  | str x t => exact .str x t
  | fix v => exact .fix v
  | obj e => exact .obj (take_idx e l.inv)
  | inst e ei => exact .inst e (take_idx ei l.inv)
  | tup e hl _ ih => exact .tup e hl fun i x v e1 e2 => ih i x v e1 e2 (l.inv i x e1)
  | clos e hc hd hcs ec hcc hdc hv hq =>
    have hi := l.inv
    exact .clos e hc (by rw [addrs_take hi]; exact hd) (fun x hx => by rw [List.length_take]; exact Nat.lt_min.mpr ⟨hi x hx, hcs x hx⟩) ec hcc hdc hv hq
  | meth e _ ih => exact .meth e (ih l.inv)
  | mtch e e2 => exact .mtch e e2
  | slice e p1 p2 p3 => exact .slice e p1 p2 p3
  | rng e => exact .rng e
theorem SV.Lt.mono {n m : Nat} {x : SV} (l : SV.Lt n x) (h : n ≤ m) : SV.Lt m x := by
  induction l with
  | none => exact .none
  | bool b => exact .bool b
  | int i => exact .int i
  | str x => exact .str x
  | fix v => exact .fix v
  | obj e => exact .obj (Nat.lt_of_lt_of_le e h)
  | inst e => exact .inst (Nat.lt_of_lt_of_le e h)
  | tup _ ih => exact .tup ih
  | clos e => exact .clos fun x hx => Nat.lt_of_lt_of_le (e x hx) h
  | meth _ ih => exact .meth ih
  | mtch x i j => exact .mtch x i j
  | rng k => exact .rng k
  | slice => exact .slice _ _ _

inductive SObj.Lt (n : Nat) : SObj → Prop
  | list {xs : List SV} : (∀ (i : Nat) (x : SV), xs[i]? = some x → SV.Lt n x) → SObj.Lt n (.list xs)
  | dict {fs : List (Str × SV)} : (∀ p ∈ fs, SV.Lt n p.2) → SObj.Lt n (.dict fs)
  | cell {v : Option SV} : (∀ x, v = some x → SV.Lt n x) → SObj.Lt n (.cell v)
  | listIt {l i : Nat} : l < n → SObj.Lt n (.listIt l i)
  | revIt {l : Nat} {i : Int} : l < n → SObj.Lt n (.revIt l i)
  | rangeIt (x left : Int) : SObj.Lt n (.rangeIt x left)
  | strIt (x : Str) (i : Nat) : SObj.Lt n (.strIt x i)
  | callIt {f : SV} : SV.Lt n f → SObj.Lt n (.callIt f)
  | set (xs : List Int) : SObj.Lt n (.set xs)
  | callEnd : SObj.Lt n .callEnd
  | junk : SObj.Lt n .junk
noncomputable def SObj.LtK (n : Nat) (x : SObj) : Prop := match x with
  | .list xs => ∀ (i : Nat) (x : SV), xs[i]? = some x → SV.Lt n x
  | .dict fs => ∀ p ∈ fs, SV.Lt n p.2
  | .cell v => ∀ x, v = some x → SV.Lt n x
  | .listIt l _ => l < n
  | .revIt l _ => l < n
  | .callIt f => SV.Lt n f
  | _ => True
theorem SObj.Lt.inv {n : Nat} {x : SObj} (l : SObj.Lt n x) : SObj.LtK n x := by
  cases l <;> first | exact trivial | assumption
theorem RepVs.lt {ρ : List Addr} {h : Heap} {xs : List SV} {vs : List Value} (r : RepVs ρ h xs vs) : ∀ (i : Nat) (x : SV), xs[i]? = some x → SV.Lt ρ.length x := fun i x ex => by
  have hi : i < vs.length := by rw [← r.1]; exact (List.getElem?_eq_some_iff.mp ex).1
  exact (r.2 i x _ ex (List.getElem?_eq_getElem hi)).lt
theorem RepVs.take {ρ : List Addr} {h : Heap} {n : Nat} {xs : List SV} {vs : List Value} (r : RepVs ρ h xs vs) (l : ∀ (i : Nat) (x : SV), xs[i]? = some x → SV.Lt n x) (hn : n ≤ ρ.length) : RepVs (ρ.take n) h xs vs :=
  ⟨r.1, fun i x v e1 e2 => (r.2 i x v e1 e2).take (l i x e1) hn⟩
theorem RepD.lt {ρ : List Addr} {h : Heap} {es : List DictEntry} {fs : List (Str × SV)} (r : RepD ρ h es fs) : ∀ p ∈ fs, SV.Lt ρ.length p.2 := by
  induction r with
  | nil => intro p hp; cases hp
  | cons _ r _ ih =>
    intro p hp
    rcases List.mem_cons.mp hp with rfl | hp
    · exact r.lt
    · exact ih p hp
theorem RepD.take {ρ : List Addr} {h : Heap} {n : Nat} {es : List DictEntry} {fs : List (Str × SV)} (r : RepD ρ h es fs) (l : ∀ p ∈ fs, SV.Lt n p.2) (hn : n ≤ ρ.length) : RepD (ρ.take n) h es fs := by
  induction r with
  | nil => exact .nil
  | cons e r _ ih => exact .cons e (r.take (l _ (.head _)) hn) (ih fun p hp => l p (.tail _ hp))
theorem RepO.lt {ρ : List Addr} {h : Heap} {x : SObj} {a : Addr} (r : RepO ρ h x a) : SObj.Lt ρ.length x := by
  cases r with
  | list e1 r => exact .list r.lt
  | dict e1 r => exact .dict r.lt
  | @cell x v o a e1 e2 r =>
    refine .cell fun y ey => ?_
    subst ey
    cases v with
    | none => exact r.elim
    | some v => exact RepV.lt r
  | listIt e1 e2 e3 e4 => exact .listIt (idx_lt e4)
  | revIt e1 e2 e3 e4 => exact .revIt (idx_lt e4)
  | rangeIt e1 => exact .rangeIt _ _
  | strIt e1 => exact .strIt _ _
  | callIt e1 r => exact .callIt r.lt
  | set e1 e2 e3 e4 e5 e6 => exact .set _
  | callEnd => exact .callEnd
  | junk => exact .junk
theorem RepO.take {ρ : List Addr} {h : Heap} {n : Nat} {x : SObj} {a : Addr} (r : RepO ρ h x a) (l : SObj.Lt n x) (hn : n ≤ ρ.length) : RepO (ρ.take n) h x a := by
  cases r with
  | list e1 r => exact .list e1 (r.take l.inv hn)
  | dict e1 r => exact .dict e1 (r.take l.inv hn)
  | @cell x v o a e1 e2 r =>
    refine .cell e1 e2 ?_
    have l := l.inv
    cases x <;> cases v <;> first | exact r | exact RepV.take r (l _ rfl) hn
  | listIt e1 e2 e3 e4 => exact .listIt e1 e2 e3 (take_idx e4 l.inv)
  | revIt e1 e2 e3 e4 => exact .revIt e1 e2 e3 (take_idx e4 l.inv)
  | rangeIt e1 => exact .rangeIt e1
  | strIt e1 e2 e3 => exact .strIt e1 e2 e3
  | callIt e1 r => exact .callIt e1 (r.take l.inv hn)
  | set e1 e2 e3 e4 e5 e6 => exact .set e1 e2 e3 e4 e5 e6
  | callEnd e1 e2 e3 => exact .callEnd e1 e2 e3
  | junk e1 e2 => exact .junk e1 e2
theorem RepO.live {ρ : List Addr} {h : Heap} {x : SObj} {a : Addr} (r : RepO ρ h x a) : ∃ o, h.get? a = some o := by
  cases r <;> exact ⟨_, by assumption⟩
theorem RepO.tracked {ρ : List Addr} {h : Heap} {x : SObj} {a : Addr} (r : RepO ρ h x a) : ∃ o, h.get? a = some o ∧ Tracked o := by
  cases r with
  | list e1 r => exact ⟨_, e1, .inr (.inr (.inr (.inl ⟨rfl, _, _, rfl⟩)))⟩
  | dict e1 r => exact ⟨_, e1, .inl ⟨_, _, rfl⟩⟩
  | cell e1 e2 r => exact ⟨_, e1, .inr (.inl ⟨_, e2⟩)⟩
  | listIt e1 e2 e3 e4 => exact ⟨_, e1, .inr (.inr (.inr (.inr ⟨_, e3, ⟨_, by decide, e2⟩, fun q t h => by simp [rawInt] at h⟩)))⟩
  | revIt e1 e2 e3 e4 => exact ⟨_, e1, .inr (.inr (.inr (.inr ⟨_, e3, ⟨_, by decide, e2⟩, fun q t h => by simp [rawInt] at h⟩)))⟩
  | rangeIt e1 => exact ⟨_, e1, .inr (.inr (.inr (.inr ⟨_, rfl, ⟨_, by decide, rfl⟩, fun q t h => by simp [rawInt] at h⟩)))⟩
  | strIt e1 e2 e3 => exact ⟨_, e1, .inr (.inr (.inr (.inr ⟨_, e3, ⟨_, by decide, e2⟩, fun q t h => by simp [rawInt] at h⟩)))⟩
  | callIt e1 r => exact ⟨_, e1, .inr (.inr (.inr (.inr ⟨_, rfl, ⟨_, by decide, rfl⟩, fun q t h => by simp at h; exact h.1.symm⟩)))⟩
  | set e1 e2 e3 => exact ⟨_, e1, .inr (.inr (.inl ⟨_, _, _, e3⟩))⟩
  | callEnd e1 e2 e3 => exact ⟨_, e1, .inr (.inr (.inr (.inr ⟨_, e3, ⟨_, by decide, e2⟩, fun q t h => by simp [rawInt] at h⟩)))⟩
  | junk e1 e2 => exact ⟨_, e1, e2⟩
end Mine

namespace Mine
open PySem PySem.W PyProof.Rows PySem.Calls

/-- a def that makes a def: its code, the code's table, the place of the inner def, the inner def's qualified name -/
structure TabT where
  c : Addr
  P : Addr
  pos : Pos
  qual : Str

/-- the world -/
structure Zt where
  prog : Program
  w : World
  H0 : Heap
  os0 : OsState
  mg : Str → Option Value
  mb : Str → Option Value
  tabs : List TabT
  K : Frag

noncomputable def TabFit (h : Heap) (T : TabT) : Prop :=
  h.get? T.P = some (tabObj #[]) ∨ ∃ c' oc vs t, h.get? T.P = some (tabObj #[rawInt T.pos.line, rawInt T.pos.col, .ref c']) ∧ h.get? c' = some oc ∧ oc.data = .fields vs ∧ vs[1]? = some (.str T.qual t) ∧ ¬ Tracked oc ∧ c' ∉ TB

structure RelH (Z : Zt) (ρ : List Addr) (σ : List SObj) (s : Shared) : Prop where
  len : ρ.length = σ.length
  nodup : ρ.Nodup
  new : ∀ a ∈ ρ, Z.H0.get? a = none ∧ a ∉ TB
  objs : ∀ (i : Nat) (o : SObj) (a : Addr), σ[i]? = some o → ρ[i]? = some a → RepO ρ s.heap o a
  base : ∀ a o, Z.H0.get? a = some o → s.heap.get? a = some o
  tabs : ∀ T ∈ Z.tabs, TabFit s.heap T
  inTB : ∀ T ∈ Z.tabs, T.P ∈ TB
  tb : ∀ P ∈ TB, ∃ ps, s.heap.get? P = some (tabObj ps)
  gens : s.gens = #[]
  os : s.os = Z.os0

noncomputable def phi (A : Around) : List Addr := (A.frames.getD []).filterMap (·.frame)

noncomputable def FrameOk (Z : Zt) (ρ : List Addr) (h : Heap) (e : Env) : Prop :=
  ∃ L, e.frame = some L ∧ e.scope.kind ≠ .module ∧ L ∉ ρ ∧ L ∉ TB ∧ Z.H0.get? L = none ∧ ∃ o es n, h.get? L = some o ∧ o.data = .dict es n

structure Okh (Z : Zt) (D : Nat) (A : Around) (ρ : List Addr) (σ : List SObj) (s : Shared) : Prop where
  depth : A.depth + D < recursionLimit
  units : A.units + 8 * D < cLine
  handled : A.handled = none
  frames : ∃ outer, A.frames = some outer ∧ ∀ e ∈ outer, FrameOk Z ρ s.heap e
  rel : RelH Z ρ σ s

structure Step (A : Around) (X : List Addr) (ρ : List Addr) (s : Shared) (ρ' : List Addr) (s' : Shared) : Prop where
  mono : Mono ρ s.heap ρ' s'.heap
  live : ∀ a o, s.heap.get? a = some o → ∃ o', s'.heap.get? a = some o'
  keepd : ∀ a o es n, s.heap.get? a = some o → o.data = .dict es n → a ∉ ρ → a ∉ X → ∃ o', s'.heap.get? a = some o' ∧ o'.data = .dict es n ∧ (a ∉ phi A → o' = o)

theorem Step.refl (A : Around) (X ρ : List Addr) (s : Shared) : Step A X ρ s ρ s := ⟨.refl _ _, fun _ o e => ⟨o, e⟩, fun _ o _ _ e d _ _ => ⟨o, e, d, fun _ => rfl⟩⟩
theorem Step.trans {A : Around} {X ρ ρ₁ ρ₂ : List Addr} {s s₁ s₂ : Shared} (p : Step A X ρ s ρ₁ s₁) (q : Step A X ρ₁ s₁ ρ₂ s₂) : Step A X ρ s ρ₂ s₂ := by
  refine ⟨p.mono.trans q.mono p.live, fun a o e => ?_, fun a o es n e d ha hx => ?_⟩
  · obtain ⟨o', e'⟩ := p.live a o e
    exact q.live a o' e'
  · obtain ⟨o', e', d', k⟩ := p.keepd a o es n e d ha hx
    obtain ⟨o'', e'', d'', k'⟩ := q.keepd a o' es n e' d' (p.mono.not_mem e ha) hx
    exact ⟨o'', e'', d'', fun hp => (k' hp).trans (k hp)⟩
theorem Step.weaken {A : Around} {X Y ρ ρ₁ : List Addr} {s s₁ : Shared} (p : Step A X ρ s ρ₁ s₁) (h : ∀ a ∈ X, a ∈ Y) : Step A Y ρ s ρ₁ s₁ :=
  ⟨p.mono, p.live, fun a o es n e d ha hx => p.keepd a o es n e d ha fun hm => hx (h a hm)⟩
theorem Step.of_keep {A : Around} {X ρ : List Addr} {s s' : Shared} (k : ∀ b o, s.heap.get? b = some o → s'.heap.get? b = some o) : Step A X ρ s ρ s' :=
  ⟨.of_keep k, fun a o e => ⟨o, k a o e⟩, fun a o _ _ e d _ _ => ⟨o, k a o e, d, fun _ => rfl⟩⟩
theorem Step.congr {A A' : Around} {X ρ ρ₁ : List Addr} {s s₁ : Shared} (p : Step A X ρ s ρ₁ s₁) (h : A'.frames = A.frames) : Step A' X ρ s ρ₁ s₁ := by
  have : phi A' = phi A := by unfold phi; rw [h]
  exact ⟨p.mono, p.live, fun a o es n e d ha hx => by rw [this]; exact p.keepd a o es n e d ha hx⟩

theorem FrameOk.step {Z : Zt} {A : Around} {ρ ρ' : List Addr} {s s' : Shared} {e : Env} (p : Step A [] ρ s ρ' s') (f : FrameOk Z ρ s.heap e) : FrameOk Z ρ' s'.heap e := by
  obtain ⟨L, h1, h2, h3, h4, h5, o, es, n, h6, h7⟩ := f
  obtain ⟨o', e', d', _⟩ := p.keepd L o es n h6 h7 h3 (by simp)
  exact ⟨L, h1, h2, p.mono.not_mem h6 h3, h4, h5, o', es, n, e', d'⟩

theorem Okh.after {Z : Zt} {D : Nat} {A : Around} {ρ ρ' : List Addr} {σ σ' : List SObj} {s s' : Shared} (k : Okh Z D A ρ σ s) (p : Step A [] ρ s ρ' s') (r : RelH Z ρ' σ' s') : Okh Z D A ρ' σ' s' :=
  ⟨k.depth, k.units, k.handled, let ⟨outer, h1, h2⟩ := k.frames; ⟨outer, h1, fun e he => (h2 e he).step p⟩, r⟩

theorem RelH.toks {Z : Zt} {ρ : List Addr} {σ : List SObj} {s : Shared} (r : RelH Z ρ σ s) (t : Nat) : RelH Z ρ σ { s with toks := t } :=
  ⟨r.len, r.nodup, r.new, r.objs, r.base, r.tabs, r.inTB, r.tb, r.gens, r.os⟩

theorem TabFit.keep {ρ ρ' : List Addr} {h h' : Heap} {T : TabT} (m : Mono ρ h ρ' h') (e : h'.get? T.P = h.get? T.P) (f : TabFit h T) : TabFit h' T := by
  rcases f with f | ⟨c', oc, vs, t, h1, h2, h3, h4, h5, h6⟩
  · exact .inl (e.trans f)
  · exact .inr ⟨c', oc, vs, t, e.trans h1, m.keep _ _ h2 (.inr h5) ⟨by intro _ _; rw [h3]; simp, .inr h6⟩, h3, h4, h5, h6⟩

/-- the heap is only grown, by what nobody tracks -/
theorem RelH.grow {Z : Zt} {ρ : List Addr} {σ : List SObj} {s : Shared} {h' : Heap} {t : Nat} (r : RelH Z ρ σ s) (k : ∀ b o, s.heap.get? b = some o → h'.get? b = some o) : RelH Z ρ σ { s with heap := h', toks := t } where
  len := r.len
  nodup := r.nodup
  new := r.new
  objs := fun i o a e1 e2 => by
    have := r.objs i o a e1 e2
    obtain ⟨ob, eo⟩ := this.live
    exact this.mono (.of_keep k) ((k a ob eo).trans eo.symm)
  base := fun a o e => k a o (r.base a o e)
  tabs := fun T hT => by
    obtain ⟨ps, e⟩ := r.tb T.P (r.inTB T hT)
    exact (r.tabs T hT).keep (Mono.of_keep (ρ := ρ) k) ((k _ _ e).trans e.symm)
  inTB := r.inTB
  tb := fun P hP => let ⟨ps, e⟩ := r.tb P hP; ⟨ps, k _ _ e⟩
  gens := r.gens
  os := r.os

/-- what a turned object that nobody else names leaves standing -/
theorem Mono.but {ρ : List Addr} {h h' : Heap} {L : Addr} (k : Heap.ExtBut L h h') (hL : ∀ o, h.get? L = some o → ¬ Imm L o ∨ (L ∈ ρ ∧ Tracked o)) : Mono ρ h ρ h' :=
  ⟨⟨[], by simp, by simp⟩, fun b o e hb hi => k b o (fun q => by subst q; rcases hL o e with x | ⟨x, y⟩; exact x hi; exact hb.elim (fun z => z x) fun z => z y) e⟩

/-- one untracked name table is turned (a frame's) -/
theorem RelH.but {Z : Zt} {ρ : List Addr} {σ : List SObj} {s : Shared} {h' : Heap} {t : Nat} {L : Addr} (r : RelH Z ρ σ s) (k : Heap.ExtBut L s.heap h') (h1 : L ∉ ρ) (h2 : Z.H0.get? L = none) (h3 : L ∉ TB)
    (h4 : ∀ o, s.heap.get? L = some o → ∃ es n, o.data = .dict es n) : RelH Z ρ σ { s with heap := h', toks := t } := by
  have m : Mono ρ s.heap ρ h' := .but k fun o e => .inl fun i => let ⟨es, n, d⟩ := h4 o e; i.1 es n d
  exact {
    len := r.len
    nodup := r.nodup
    new := r.new
    objs := fun i o a e1 e2 => by
      have := r.objs i o a e1 e2
      obtain ⟨ob, eo⟩ := this.live
      exact this.mono m ((k a ob (fun q => h1 (by rw [← q]; exact List.mem_of_getElem? e2)) eo).trans eo.symm)
    base := fun a o e => k a o (fun q => by rw [q, h2] at e; cases e) (r.base a o e)
    tabs := fun T hT => by
      obtain ⟨ps, e⟩ := r.tb T.P (r.inTB T hT)
      exact (r.tabs T hT).keep m ((k _ _ (fun q => h3 (by rw [← q]; exact r.inTB T hT)) e).trans e.symm)
    inTB := r.inTB
    tb := fun P hP => let ⟨ps, e⟩ := r.tb P hP; ⟨ps, k _ _ (fun q => h3 (by rw [← q]; exact hP)) e⟩
    gens := r.gens
    os := r.os }

theorem nodup_idx {ρ : List Addr} (h : ρ.Nodup) {i j : Nat} {a : Addr} (e1 : ρ[i]? = some a) (e2 : ρ[j]? = some a) : i = j := by
  obtain ⟨h1, k1⟩ := List.getElem?_eq_some_iff.mp e1
  obtain ⟨h2, k2⟩ := List.getElem?_eq_some_iff.mp e2
  have := (List.getElem_inj (h₀ := h1) (h₁ := h2) h).mp (k1.trans k2.symm)
  exact this

/-- a tracked object is turned -/
theorem RelH.set {Z : Zt} {ρ : List Addr} {σ : List SObj} {s : Shared} {h' : Heap} {t : Nat} {i : Nat} {a : Addr} {o' : SObj} (r : RelH Z ρ σ s) (ha : ρ[i]? = some a) (k : Heap.ExtBut a s.heap h') (ho : Mono ρ s.heap ρ h' → RepO ρ h' o' a) :
    RelH Z ρ (σ.set i o') { s with heap := h', toks := t } ∧ Mono ρ s.heap ρ h' := by
  have hm : a ∈ ρ := List.mem_of_getElem? ha
  have hl : i < σ.length := by have := idx_lt ha; have := r.len; (first | lia | omega)
  have m : Mono ρ s.heap ρ h' := .but k fun o e => .inr ⟨hm, by
    obtain ⟨o', e', ht⟩ := (r.objs i _ a (List.getElem?_eq_getElem hl) ha).tracked
    rw [e] at e'; cases e'; exact ht⟩
  refine ⟨?_, m⟩
  exact {
    len := by rw [List.length_set]; exact r.len
    nodup := r.nodup
    new := r.new
    objs := fun j o b e1 e2 => by
      by_cases hij : i = j
      · subst hij
        rw [ha] at e2; cases e2
        have hi : i < σ.length := by have := idx_lt ha; have := r.len; (first | lia | omega)
        rw [List.getElem?_set_self hi] at e1
        cases e1
        exact ho m
      · rw [List.getElem?_set_ne hij] at e1
        have := r.objs j o b e1 e2
        obtain ⟨ob, eo⟩ := this.live
        exact this.mono m ((k b ob (fun q => hij (nodup_idx r.nodup ha (q ▸ e2))) eo).trans eo.symm)
    base := fun b o e => k b o (fun q => by rw [q, (r.new a hm).1] at e; cases e) (r.base b o e)
    tabs := fun T hT => by
      obtain ⟨ps, e⟩ := r.tb T.P (r.inTB T hT)
      exact (r.tabs T hT).keep m ((k _ _ (fun q => (r.new a hm).2 (by rw [← q]; exact r.inTB T hT)) e).trans e.symm)
    inTB := r.inTB
    tb := fun P hP => let ⟨ps, e⟩ := r.tb P hP; ⟨ps, k _ _ (fun q => (r.new a hm).2 (by rw [← q]; exact hP)) e⟩
    gens := r.gens
    os := r.os }

/-- a new tracked object -/
theorem RelH.push {Z : Zt} {ρ : List Addr} {σ : List SObj} {s : Shared} {h' : Heap} {t : Nat} {a : Addr} {o' : SObj} (r : RelH Z ρ σ s) (hf : s.heap.get? a = none) (k : ∀ b o, s.heap.get? b = some o → h'.get? b = some o)
    (ho : Mono ρ s.heap (ρ ++ [a]) h' → RepO (ρ ++ [a]) h' o' a) : RelH Z (ρ ++ [a]) (σ ++ [o']) { s with heap := h', toks := t } ∧ Mono ρ s.heap (ρ ++ [a]) h' := by
  have m : Mono ρ s.heap (ρ ++ [a]) h' := ⟨⟨[a], rfl, fun b hb => by rw [List.mem_singleton] at hb; subst hb; exact hf⟩, fun b o e _ _ => k b o e⟩
  have hn : a ∉ ρ := fun hm => by
    obtain ⟨i, hi⟩ := List.mem_iff_getElem?.mp hm
    have hl : i < σ.length := by have := idx_lt hi; have := r.len; (first | lia | omega)
    obtain ⟨ob, eo⟩ := (r.objs i _ a (List.getElem?_eq_getElem hl) hi).live
    rw [hf] at eo; cases eo
  refine ⟨?_, m⟩
  exact {
    len := by simp [r.len]
    nodup := by
      rw [List.nodup_append]
      refine ⟨r.nodup, by simp, fun x hx y hy => ?_⟩
      rw [List.mem_singleton] at hy
      subst hy
      exact fun q => hn (q ▸ hx)
    new := fun b hb => by
      rcases List.mem_append.mp hb with x | x
      · exact r.new b x
      · rw [List.mem_singleton] at x
        subst x
        refine ⟨?_, fun hP => ?_⟩
        · cases q : Z.H0.get? b with
          | none => rfl
          | some o => have := r.base b o q; rw [hf] at this; cases this
        · obtain ⟨ps, e⟩ := r.tb b hP
          rw [hf] at e; cases e
    objs := fun j o b e1 e2 => by
      by_cases hj : j < ρ.length
      · rw [List.getElem?_append_left hj] at e2
        rw [List.getElem?_append_left (by rw [← r.len]; exact hj)] at e1
        have := r.objs j o b e1 e2
        obtain ⟨ob, eo⟩ := this.live
        exact this.mono m ((k b ob eo).trans eo.symm)
      · have hj1 : j < (ρ ++ [a]).length := idx_lt e2
        rw [List.length_append, List.length_singleton] at hj1
        have hj2 : j = ρ.length := by (first | lia | omega)
        subst hj2
        rw [List.getElem?_concat_length] at e2
        rw [r.len, List.getElem?_concat_length] at e1
        cases e1; cases e2
        exact ho m
    base := fun b o e => k b o (r.base b o e)
    tabs := fun T hT => by
      obtain ⟨ps, e⟩ := r.tb T.P (r.inTB T hT)
      exact (r.tabs T hT).keep m ((k _ _ e).trans e.symm)
    inTB := r.inTB
    tb := fun P hP => let ⟨ps, e⟩ := r.tb P hP; ⟨ps, k _ _ e⟩
    gens := r.gens
    os := r.os }

/-- what was tracked last is let go -/
theorem RelH.drop {Z : Zt} {ρ : List Addr} {σ τ : List SObj} {s : Shared} (r : RelH Z ρ (σ ++ τ) s) (l : ∀ (i : Nat) (o : SObj), σ[i]? = some o → SObj.Lt σ.length o) : RelH Z (ρ.take σ.length) σ s := by
  have hl : σ.length ≤ ρ.length := by rw [r.len]; simp
  exact {
    len := by rw [List.length_take]; (first | lia | omega)
    nodup := r.nodup.sublist (List.take_sublist _ _)
    new := fun a ha => r.new a (List.mem_of_mem_take ha)
    objs := fun i o a e1 e2 => by
      have hi : i < σ.length := (List.getElem?_eq_some_iff.mp e1).1
      rw [List.getElem?_take_of_lt hi] at e2
      exact (r.objs i o a (by rw [List.getElem?_append_left hi]; exact e1) e2).take (l i o e1) hl
    base := r.base
    tabs := r.tabs
    inTB := r.inTB
    tb := r.tb
    gens := r.gens
    os := r.os }

theorem RelH.scoped {Z : Zt} {ρ : List Addr} {σ : List SObj} {s : Shared} (r : RelH Z ρ σ s) (i : Nat) (o : SObj) (e : σ[i]? = some o) : SObj.Lt σ.length o := by
  have hi : i < ρ.length := by have := (List.getElem?_eq_some_iff.mp e).1; have := r.len; (first | lia | omega)
  have := (r.objs i o _ e (List.getElem?_eq_getElem hi)).lt
  rw [r.len] at this
  exact this
theorem RelH.addr {Z : Zt} {ρ : List Addr} {σ : List SObj} {s : Shared} (r : RelH Z ρ σ s) {i : Nat} {o : SObj} (e : σ[i]? = some o) : ∃ a, ρ[i]? = some a ∧ RepO ρ s.heap o a := by
  have hi : i < ρ.length := by have := (List.getElem?_eq_some_iff.mp e).1; have := r.len; (first | lia | omega)
  exact ⟨_, List.getElem?_eq_getElem hi, r.objs i o _ e (List.getElem?_eq_getElem hi)⟩
theorem RelH.at {Z : Zt} {ρ : List Addr} {σ : List SObj} {s : Shared} (r : RelH Z ρ σ s) {i : Nat} {o : SObj} {v : Value} (e : σ[i]? = some o) (hv : RepV ρ s.heap (.obj i) v) : ∃ a, v = .ref a ∧ ρ[i]? = some a ∧ RepO ρ s.heap o a := by
  apply RepV.elim hv; intro a ha
  exact ⟨_, rfl, ha, r.objs i o _ e ha⟩
theorem RelH.atE {Z : Zt} {ρ : List Addr} {σ : List SObj} {s : Shared} (r : RelH Z ρ σ s) {i : Nat} {o : SObj} {v : Value} (e : σ[i]? = some o) (hv : RepV ρ s.heap (.obj i) v) {P : Value → Prop} (k : ∀ a, ρ[i]? = some a → RepO.K ρ s.heap a (P (.ref a)) o) : P v := by
  apply RepV.elim hv; intro a ha
  exact (r.objs i o _ e ha).elim (k a ha)
theorem RelH.fresh {Z : Zt} {ρ : List Addr} {σ : List SObj} {s : Shared} (r : RelH Z ρ σ s) {a : Addr} (hf : s.heap.get? a = none) : a ∉ ρ ∧ a ∉ TB ∧ Z.H0.get? a = none := by
  refine ⟨fun hm => ?_, fun hP => ?_, ?_⟩
  · obtain ⟨i, hi⟩ := List.mem_iff_getElem?.mp hm
    have hl : i < σ.length := by have := idx_lt hi; have := r.len; (first | lia | omega)
    obtain ⟨ob, eo⟩ := (r.objs i _ a (List.getElem?_eq_getElem hl) hi).live
    rw [hf] at eo; cases eo
  · obtain ⟨ps, e⟩ := r.tb a hP
    rw [hf] at e; cases e
  · cases q : Z.H0.get? a with
    | none => rfl
    | some o => have := r.base a o q; rw [hf] at this; cases this
theorem get_size_none (h : Heap) : h.get? h.objs.size = none := by
  cases q : h.get? h.objs.size with
  | none => rfl
  | some o => exact absurd (Heap.lt_size q) (Nat.lt_irrefl _)
end Mine

namespace Mine
open PySem PySem.W PyProof.Rows PySem.Calls

/-- what is fixed in an activation -/
structure Ctx where
  name : Str
  scope : Scope
  cd : Value
  cells : List (Str × Nat)

noncomputable abbrev Loc := List (Str × SV)

structure FrH (Z : Zt) (κ : Ctx) (env : Env) (ρ : List Addr) (loc : Loc) (s : Shared) : Prop where
  scope : env.scope = κ.scope
  kind : κ.scope.kind = .function
  glob : env.globals = mainGlobals
  bltn : env.builtins = builtinsNs
  code : env.code = κ.cd
  qual : env.qual = κ.name ++ ".<locals>."
  frame : env.frame = env.frame
  cells : env.cells = addrsOf ρ κ.cells ∧ ∀ x ∈ κ.cells, x.2 < ρ.length
  lρ : env.locals ∉ ρ
  ltb : env.locals ∉ TB
  lH : Z.H0.get? env.locals = none
  ns : ∃ m, s.heap.Ns env.locals m ∧ NsRep ρ s.heap loc m

theorem ns_data {h h' : Heap} {a : Addr} {m : Str → Option Value} (x : h.Ns a m) (k : ∀ o es n, h.get? a = some o → o.data = .dict es n → ∃ o', h'.get? a = some o' ∧ o'.data = .dict es n) : h'.Ns a m := by
  obtain ⟨o, es, ep, e1, e2, e3, e4⟩ := x
  obtain ⟨o', e', d'⟩ := k o es ep e1 e2
  exact ⟨o', es, ep, e', d', e3, e4⟩

theorem FrH.step {Z : Zt} {κ : Ctx} {env : Env} {ρ ρ' : List Addr} {loc : Loc} {s s' : Shared} {A : Around} (f : FrH Z κ env ρ loc s) (p : Step A [] ρ s ρ' s') : FrH Z κ env ρ' loc s' := by
  obtain ⟨m, h1, h2⟩ := f.ns
  have h1' := id h1
  obtain ⟨o, es, ep, e1, e2, _, _⟩ := h1'
  exact { f with
    cells := ⟨by rw [p.mono.addrs f.cells.2]; exact f.cells.1, fun x hx => Nat.lt_of_lt_of_le (f.cells.2 x hx) p.mono.len⟩
    lρ := p.mono.not_mem e1 f.lρ
    ns := ⟨m, ns_data h1 (fun o es n e d => let ⟨o', e', d', _⟩ := p.keepd _ o es n e d f.lρ (by simp); ⟨o', e', d'⟩), h2.mono p.mono⟩ }

theorem Okh.toks {Z : Zt} {D : Nat} {A : Around} {ρ : List Addr} {σ : List SObj} {s : Shared} (k : Okh Z D A ρ σ s) (t : Nat) : Okh Z D A ρ σ { s with toks := t } :=
  ⟨k.depth, k.units, k.handled, k.frames, k.rel.toks t⟩
theorem Step.toks {A : Around} {X ρ ρ' : List Addr} {s s' : Shared} (p : Step A X ρ s ρ' s') (t : Nat) : Step A X ρ s ρ' { s' with toks := t } := ⟨p.mono, p.live, p.keepd⟩

/-- what holds behind a step -/
noncomputable def Post (Z : Zt) (D : Nat) (A : Around) (X ρ : List Addr) (s : Shared) {α : Type} (σ' : List SObj) (R : List Addr → Heap → α → Prop) : α → Shared → Prop :=
  fun a s' => ∃ ρ', Okh Z D A ρ' σ' s' ∧ Step A X ρ s ρ' s' ∧ R ρ' s'.heap a

noncomputable def bot : Value → Shared → Prop := fun _ _ => False

noncomputable def Act (Z : Zt) (D : Nat) {α : Type} (args : List SV) (σ : List SObj) (t : List Value → Sem α) (σ' : List SObj) (R : List Addr → Heap → α → Prop) : Prop :=
  ∀ A s ρ vs, Okh Z D A ρ σ s → RepVs ρ s.heap args vs → wpAny (model Z.prog Z.w) A (t vs) (Post Z D A [] ρ s σ' R) bot s

noncomputable abbrev isV (r : SV) : List Addr → Heap → Value → Prop := fun ρ h v => RepV ρ h r v
noncomputable abbrev isB (b : Bool) : List Addr → Heap → Bool → Prop := fun _ _ c => c = b
noncomputable abbrev isU : List Addr → Heap → Unit → Prop := fun _ _ _ => True

noncomputable def Call (Z : Zt) (D : Nat) (f : SV) (args : List SV) (σ : List SObj) (r : SV) (σ' : List SObj) : Prop :=
  Act Z D (f :: args) σ (fun vs => match vs with | f :: vs => call f vs | [] => pure .none) σ' (isV r)

noncomputable def EvE (Z : Zt) (D : Nat) (κ : Ctx) (loc : Loc) (σ : List SObj) (e : Expr) (r : SV) (σ' : List SObj) : Prop :=
  ∀ A s ρ env, Okh Z D A ρ σ s → FrH Z κ env ρ loc s → wpAny (model Z.prog Z.w) A (eval e env) (Post Z D A [] ρ s σ' (isV r)) bot s

/-- a test -/
noncomputable def EvT (Z : Zt) (D : Nat) (κ : Ctx) (loc : Loc) (σ : List SObj) (e : Expr) (b : Bool) (σ' : List SObj) : Prop :=
  ∀ A s ρ env, Okh Z D A ρ σ s → FrH Z κ env ρ loc s → wpAny (model Z.prog Z.w) A (isTrue e env (eval e env)) (Post Z D A [] ρ s σ' (isB b)) bot s

/-- items of a display, a call's arguments -/
noncomputable def EvL (Z : Zt) (D : Nat) (κ : Ctx) (loc : Loc) (σ : List SObj) (es : List Expr) (rs : List SV) (σ' : List SObj) : Prop :=
  ∀ A s ρ env pos, Okh Z D A ρ σ s → FrH Z κ env ρ loc s → wpAny (model Z.prog Z.w) A (spliced (backTo pos (starEach es env))) (Post Z D A [] ρ s σ' (fun ρ h vs => RepVs ρ h rs vs)) bot s

/-- flow -/
inductive AF where
  | next | brk | cont
  | ret (r : SV)

inductive RepF (ρ : List Addr) (h : Heap) : AF → Flow → Prop
  | next : RepF ρ h .next .next
  | brk : RepF ρ h .brk .brk
  | cont : RepF ρ h .cont .cont
  | ret {r : SV} {v : Value} : RepV ρ h r v → RepF ρ h (.ret r) (.ret v)

theorem RepF.map {ρ ρ' : List Addr} {h h' : Heap} {x : AF} {v : Flow} (r : RepF ρ h x v) (k : ∀ y u, x = .ret y → RepV ρ h y u → RepV ρ' h' y u) : RepF ρ' h' x v := by
  cases r with
  | next => exact .next
  | brk => exact .brk
  | cont => exact .cont
  | ret r => exact .ret (k _ _ rfl r)
theorem RepF.retE {ρ : List Addr} {h : Heap} {x : SV} {v : Flow} (r : RepF ρ h (.ret x) v) {P : Flow → Prop} (k : ∀ u, RepV ρ h x u → P (.ret u)) : P v := by
  cases r with | ret r => exact k _ r
theorem RepF.nextE {ρ : List Addr} {h : Heap} {v : Flow} (r : RepF ρ h .next v) {P : Flow → Prop} (k : P .next) : P v := by
  cases r; exact k
theorem RepF.go {ρ : List Addr} {h : Heap} {g : AF} {v : Flow} (r : RepF ρ h g v) (hg : g = .next ∨ g = .cont) {P : Flow → Prop} (k : P .next) (k2 : P .cont) : P v := by
  rcases hg with rfl | rfl <;> cases r
  · exact k
  · exact k2

/-- what holds behind a statement -/
noncomputable def PostS (Z : Zt) (D : Nat) (A : Around) (κ : Ctx) (env : Env) (ρ : List Addr) (s : Shared) {α : Type} (loc' : Loc) (σ' : List SObj) (R : List Addr → Heap → α → Prop) : α → Shared → Prop :=
  fun a s' => ∃ ρ', Okh Z D A ρ' σ' s' ∧ Step A [env.locals] ρ s ρ' s' ∧ FrH Z κ env ρ' loc' s' ∧ R ρ' s'.heap a

noncomputable def EvS (Z : Zt) (D : Nat) (κ : Ctx) (loc : Loc) (σ : List SObj) (st : Stmt) (f : AF) (loc' : Loc) (σ' : List SObj) : Prop :=
  ∀ A s ρ env, Okh Z D A ρ σ s → FrH Z κ env ρ loc s → wpAny (model Z.prog Z.w) A (exec st env) (PostS Z D A κ env ρ s loc' σ' (fun ρ h fl => RepF ρ h f fl)) bot s

noncomputable def EvSs (Z : Zt) (D : Nat) (κ : Ctx) (loc : Loc) (σ : List SObj) (sts : List Stmt) (f : AF) (loc' : Loc) (σ' : List SObj) : Prop :=
  ∀ A s ρ env, Okh Z D A ρ σ s → FrH Z κ env ρ loc s → wpAny (model Z.prog Z.w) A (execs sts env) (PostS Z D A κ env ρ s loc' σ' (fun ρ h fl => RepF ρ h f fl)) bot s

/-- a store into a target -/
noncomputable def EvA (Z : Zt) (D : Nat) (κ : Ctx) (loc : Loc) (σ : List SObj) (t : Expr) (x : SV) (loc' : Loc) (σ' : List SObj) : Prop :=
  ∀ A s ρ env v, Okh Z D A ρ σ s → FrH Z κ env ρ loc s → RepV ρ s.heap x v → wpAny (model Z.prog Z.w) A (assign t env v) (PostS Z D A κ env ρ s loc' σ' (fun _ _ (_ : Unit) => True)) bot s

section
variable {Z : Zt} {D : Nat} {κ : Ctx} {loc loc' loc₁ : Loc} {σ σ' σ₁ σ₂ σ₃ : List SObj}

theorem PostS.of_post {α : Type} {A : Around} {env : Env} {ρ : List Addr} {s : Shared} {R : List Addr → Heap → α → Prop} {a : α} {s' : Shared} (f : FrH Z κ env ρ loc s) (p : Post Z D A [] ρ s σ' R a s') : PostS Z D A κ env ρ s loc σ' R a s' :=
  let ⟨ρ', k, st, r⟩ := p; ⟨ρ', k, st.weaken (by simp), f.step st, r⟩

/-- nothing but tokens -/
theorem Post.now {α : Type} {A : Around} {ρ : List Addr} {s : Shared} {R : List Addr → Heap → α → Prop} {a : α} (k : Okh Z D A ρ σ s) (t : Nat) (r : R ρ s.heap a) : Post Z D A [] ρ s σ R a { s with toks := t } :=
  ⟨ρ, k.toks t, (Step.refl _ _ _ _).toks t, r⟩
theorem Post.now0 {α : Type} {A : Around} {ρ : List Addr} {s : Shared} {R : List Addr → Heap → α → Prop} {a : α} (k : Okh Z D A ρ σ s) (r : R ρ s.heap a) : Post Z D A [] ρ s σ R a s :=
  ⟨ρ, k, Step.refl _ _ _ _, r⟩
/-- the heap grown by what nobody tracks -/
theorem Post.grow {α : Type} {A : Around} {ρ : List Addr} {s : Shared} {h' : Heap} {R : List Addr → Heap → α → Prop} {a : α} (k : Okh Z D A ρ σ s) (t : Nat) (g : ∀ b o, s.heap.get? b = some o → h'.get? b = some o) (r : R ρ h' a) : Post Z D A [] ρ s σ R a { s with heap := h', toks := t } :=
  have st : Step A [] ρ s ρ { s with heap := h', toks := t } := .of_keep g
  ⟨ρ, k.after st (k.rel.grow g), st, r⟩
/-- a new tracked object -/
theorem Post.push {α : Type} {A : Around} {ρ : List Addr} {s : Shared} {h' : Heap} {R : List Addr → Heap → α → Prop} {a : α} {b : Addr} {o : SObj} (k : Okh Z D A ρ σ s) (t : Nat) (hf : s.heap.get? b = none) (g : ∀ b o, s.heap.get? b = some o → h'.get? b = some o)
    (ho : Mono ρ s.heap (ρ ++ [b]) h' → RepO (ρ ++ [b]) h' o b) (r : (ρ ++ [b])[σ.length]? = some b → Mono ρ s.heap (ρ ++ [b]) h' → R (ρ ++ [b]) h' a) : Post Z D A [] ρ s (σ ++ [o]) R a { s with heap := h', toks := t } := by
  obtain ⟨rel, m⟩ := k.rel.push (t := t) hf g ho
  have st : Step A [] ρ s (ρ ++ [b]) { s with heap := h', toks := t } := ⟨m, fun a o e => ⟨o, g a o e⟩, fun a o _ _ e d _ _ => ⟨o, g a o e, d, fun _ => rfl⟩⟩
  exact ⟨ρ ++ [b], k.after st rel, st, r (by rw [← k.rel.len]; exact List.getElem?_concat_length) m⟩
/-- a tracked object turned -/
theorem Post.set {α : Type} {A : Around} {ρ : List Addr} {s : Shared} {h' : Heap} {R : List Addr → Heap → α → Prop} {a : α} {b : Addr} {i : Nat} {o : SObj} (k : Okh Z D A ρ σ s) (t : Nat) (hb : ρ[i]? = some b) (g : Heap.ExtBut b s.heap h')
    (gl : ∃ o, h'.get? b = some o) (ho : Mono ρ s.heap ρ h' → RepO ρ h' o b) (r : Mono ρ s.heap ρ h' → R ρ h' a) : Post Z D A [] ρ s (σ.set i o) R a { s with heap := h', toks := t } := by
  obtain ⟨rel, m⟩ := k.rel.set (t := t) hb g ho
  have hm := List.mem_of_getElem? hb
  have st : Step A [] ρ s ρ { s with heap := h', toks := t } := ⟨m, fun a o e => by
    by_cases q : a = b
    · subst q; exact gl
    · exact ⟨o, g a o q e⟩, fun a o _ _ e d ha _ => ⟨o, g a o (fun q => ha (q ▸ hm)) e, d, fun _ => rfl⟩⟩
  exact ⟨ρ, k.after st rel, st, r m⟩

-- expressions
theorem EvE.int {i : Int} {k : Nat} {pos : Pos} : EvE Z D κ loc σ (.Constant (.int i) k pos) (.int i) σ := fun _ s _ _ ok _ => wpAny_Constant_int (Post.now ok _ (.int i s.toks))
theorem EvE.cstr {x : Str} {k : Nat} {pos : Pos} : EvE Z D κ loc σ (.Constant (.str x) k pos) (.str x) σ := fun _ s _ _ ok _ => wpAny_Constant_str (Post.now ok _ (.str x s.toks))
theorem EvE.cbool {b : Bool} {k : Nat} {pos : Pos} : EvE Z D κ loc σ (.Constant (.bool b) k pos) (.bool b) σ := fun _ s _ _ ok _ => wpAny_Constant_bool (Post.now0 ok (.bool b))
theorem EvE.cnone {k : Nat} {pos : Pos} : EvE Z D κ loc σ (.Constant .none k pos) .none σ := fun _ s _ _ ok _ => wpAny_Constant_none (Post.now0 ok .none)

theorem FrH.kindOf {env : Env} {ρ : List Addr} {s : Shared} (f : FrH Z κ env ρ loc s) (x : Str) : env.kindOf x = κ.scope.names.lookup x := by
  unfold Env.kindOf; rw [f.scope]
theorem FrH.kind' {env : Env} {ρ : List Addr} {s : Shared} (f : FrH Z κ env ρ loc s) : env.scope.kind = .function := by rw [f.scope]; exact f.kind
theorem FrH.noMod {env : Env} {ρ : List Addr} {s : Shared} (f : FrH Z κ env ρ loc s) : (env.scope.kind == .class || (env.scope.kind == .module && env.locals != env.globals)) = false := by rw [f.kind']; rfl
theorem FrH.inter {env : Env} {ρ : List Addr} {s : Shared} (f : FrH Z κ env ρ loc s) : interactive env = false := by unfold interactive; rw [f.kind']; rfl

theorem ns_get {ρ : List Addr} {h : Heap} {fs : Loc} {m : Str → Option Value} {x : Str} {y : SV} (r : NsRep ρ h fs m) (e : fs.lookup x = some y) : ∃ v, m x = some v ∧ RepV ρ h y v := by
  exact r x y e

theorem EvE.var {x : Str} {pos : Pos} {r : SV} (hk : κ.scope.names.lookup x = some .local) (hx : loc.lookup x = some r) (hd : (x == ("__debug__" : Str)) = false) : EvE Z D κ loc σ (.Name x pos) r σ := fun _ s _ env ok f => by
  obtain ⟨m, h1, h2⟩ := f.ns
  obtain ⟨v, e, rv⟩ := ns_get h2 hx
  exact wpAny_Name (wpAny_loadName_local f.kind' ((f.kindOf x).trans hk) h1 e (Post.now0 ok rv)) hd

end
end Mine

namespace Mine
open PySem PySem.W PyProof.Rows PySem.Calls

/-- what the top left, as far as it is asked -/
structure Zt.Ok (Z : Zt) : Prop where
  k : Z.K.In Z.H0
  g : Z.H0.Ns mainGlobals Z.mg
  b : Z.H0.Ns builtinsNs Z.mb
  lim : Z.H0.NoLimit
  nodig : ∃ mc, Z.H0.Ns cStatics mc ∧ mc "sys.int_max_str_digits" = none
  bmain : ∃ bm ob, Z.mg "__builtins__" = some (.ref bm) ∧ bm ≠ builtinsNs ∧ bm ≠ mainGlobals ∧ Z.H0.get? bm = some ob ∧ ob.cls = .type "module" ∧ ob.dict = some builtinsNs ∧ ob.data = .plain
  heads : ∀ T ∈ Z.tabs, CodeHd Z.H0 T.c T.P
  apart : ∀ T ∈ Z.tabs, ∀ T' ∈ Z.tabs, T.P = T'.P → T = T'
  hid : ∀ P ∈ TB, Z.H0.get? P = none
  quals : ∀ T ∈ Z.tabs, T.qual ≠ Str.empty

section
variable {Z : Zt} {D : Nat} {κ : Ctx} {loc loc' loc₁ : Loc} {σ σ' σ₁ σ₂ σ₃ : List SObj}

noncomputable def Una (Z : Zt) (D : Nat) {α : Type} (a : SV) (σ : List SObj) (t : Value → Sem α) (σ' : List SObj) (R : List Addr → Heap → α → Prop) : Prop :=
  ∀ A s ρ v, Okh Z D A ρ σ s → RepV ρ s.heap a v → wpAny (model Z.prog Z.w) A (t v) (Post Z D A [] ρ s σ' R) bot s
noncomputable def Bin (Z : Zt) (D : Nat) {α : Type} (a b : SV) (σ : List SObj) (t : Value → Value → Sem α) (σ' : List SObj) (R : List Addr → Heap → α → Prop) : Prop :=
  ∀ A s ρ v u, Okh Z D A ρ σ s → RepV ρ s.heap a v → RepV ρ s.heap b u → wpAny (model Z.prog Z.w) A (t v u) (Post Z D A [] ρ s σ' R) bot s
noncomputable def Tri (Z : Zt) (D : Nat) {α : Type} (a b c : SV) (σ : List SObj) (t : Value → Value → Value → Sem α) (σ' : List SObj) (R : List Addr → Heap → α → Prop) : Prop :=
  ∀ A s ρ v u x, Okh Z D A ρ σ s → RepV ρ s.heap a v → RepV ρ s.heap b u → RepV ρ s.heap c x → wpAny (model Z.prog Z.w) A (t v u x) (Post Z D A [] ρ s σ' R) bot s

noncomputable abbrev OpB (Z : Zt) (D : Nat) (op : Operator) (a b : SV) (σ : List SObj) (r : SV) (σ' : List SObj) : Prop := Bin Z D a b σ (fun v u => binaryOp op v u) σ' (isV r)
noncomputable abbrev OpI (Z : Zt) (D : Nat) (op : Operator) (a b : SV) (σ : List SObj) (r : SV) (σ' : List SObj) : Prop := Bin Z D a b σ (fun v u => inplaceOp op v u) σ' (isV r)
noncomputable abbrev OpC (Z : Zt) (D : Nat) (op : CmpOp) (a b : SV) (σ : List SObj) (r : SV) (σ' : List SObj) : Prop := Bin Z D a b σ (fun v u => compareOp op v u) σ' (isV r)
noncomputable abbrev OpU (Z : Zt) (D : Nat) (op : UnaryOp) (a : SV) (σ : List SObj) (r : SV) (σ' : List SObj) : Prop := Una Z D a σ (fun v => unaryOp op v) σ' (isV r)
noncomputable abbrev Tru (Z : Zt) (D : Nat) (a : SV) (σ : List SObj) (b : Bool) (σ' : List SObj) : Prop := Una Z D a σ (fun v => truthy v) σ' (isB b)
noncomputable abbrev GetI (Z : Zt) (D : Nat) (a b : SV) (σ : List SObj) (r : SV) (σ' : List SObj) : Prop := Bin Z D a b σ (fun v u => getItem v u) σ' (isV r)
noncomputable abbrev SetI (Z : Zt) (D : Nat) (a b c : SV) (σ σ' : List SObj) : Prop := Tri Z D a b c σ (fun v u x => setItem v u x) σ' isU

theorem Bin.ii {α : Type} {a b : Int} {t : Value → Value → Sem α} {R : List Addr → Heap → α → Prop} (k : ∀ A s ρ i j, Okh Z D A ρ σ s → wpAny (model Z.prog Z.w) A (t (.int a i) (.int b j)) (Post Z D A [] ρ s σ' R) bot s) : Bin Z D (.int a) (.int b) σ t σ' R := fun A s ρ _ _ ok r1 r2 => by
  apply RepV.elim r1; intro i; apply RepV.elim r2; intro j; exact k A s ρ i j ok
theorem Bin.ss {α : Type} {a b : Str} {t : Value → Value → Sem α} {R : List Addr → Heap → α → Prop} (k : ∀ A s ρ i j, Okh Z D A ρ σ s → wpAny (model Z.prog Z.w) A (t (.str a i) (.str b j)) (Post Z D A [] ρ s σ' R) bot s) : Bin Z D (.str a) (.str b) σ t σ' R := fun A s ρ _ _ ok r1 r2 => by
  apply RepV.elim r1; intro i; apply RepV.elim r2; intro j; exact k A s ρ i j ok
-- ints: sizes
noncomputable def Sz (a : Int) : Prop := a.natAbs < 2 ^ 1000
theorem Sz.log2 {a : Int} (h : Sz a) : a.natAbs.log2 < 1000 := by
  by_cases z : a.natAbs = 0
  · rw [z]; decide
  · exact (Nat.log2_lt z).mpr h
theorem Sz.bits {a : Int} (h : Sz a) : Builtin.Int.intBits a ≤ 1000 := by
  have := h.log2
  unfold Builtin.Int.intBits
  first
    | omega
    | (split <;> omega)
theorem Sz.mul {a b : Int} (ha : Sz a) (hb : Sz b) : IntMulOk a b :=
  IntMulOk.of_bits (by have := ha.bits; omega) (by have := hb.bits; omega)
theorem Sz.div {a b : Int} (hb : Sz b) : Builtin.divisionGoesByPylong a b = false := PyProof.noPylong_of_log2 (by have := hb.log2; omega)

-- names
theorem RelH.g (hZ : Z.Ok) {ρ : List Addr} {s : Shared} (r : RelH Z ρ σ s) : s.heap.Ns mainGlobals Z.mg := hZ.g.keeps r.base
theorem RelH.b (hZ : Z.Ok) {ρ : List Addr} {s : Shared} (r : RelH Z ρ σ s) : s.heap.Ns builtinsNs Z.mb := hZ.b.keeps r.base
theorem EvE.glob {x : Str} {pos : Pos} {v : Value} (hZ : Z.Ok) (hk : κ.scope.names.lookup x = some .globalImplicit) (hx : Z.mg x = some v) (hd : (x == ("__debug__" : Str)) = false) : EvE Z D κ loc σ (.Name x pos) (.fix v) σ := fun _ s _ env ok f =>
  Name_function_global f.kind' ((f.kindOf x).trans hk) (loadGlobal_global (by rw [f.glob]; exact ok.rel.g hZ) hx (Post.now0 ok (.fix v))) hd
theorem EvE.bltn {x : Str} {pos : Pos} {v : Value} (hZ : Z.Ok) (hk : κ.scope.names.lookup x = some .globalImplicit) (hx : Z.mg x = none) (hb : Z.mb x = some v) (hd : (x == ("__debug__" : Str)) = false) : EvE Z D κ loc σ (.Name x pos) (.fix v) σ := fun _ s _ env ok f =>
  Name_function_global f.kind' ((f.kindOf x).trans hk) (loadGlobal_builtin (by rw [f.glob]; exact ok.rel.g hZ) hx (by rw [f.bltn]; exact ok.rel.b hZ) hb (Post.now0 ok (.fix v))) hd

theorem lookup_addrs {ρ : List Addr} {cs : List (Str × Nat)} {x : Str} {i : Nat} (h : cs.lookup x = some i) : (addrsOf ρ cs).lookup x = some (ρ.getD i 0) := by
  induction cs with
  | nil => simp at h
  | cons c r ih =>
    obtain ⟨y, j⟩ := c
    show ((y, ρ.getD j 0) :: addrsOf ρ r).lookup x = _
    rw [List.lookup_cons] at h ⊢
    cases hb : x == y with
    | true => rw [hb] at h; cases h; rfl
    | false => rw [hb] at h; exact ih h
theorem RelH.cell {ρ : List Addr} {s : Shared} (r : RelH Z ρ σ s) {i : Nat} {y : Option SV} (e : σ[i]? = some (.cell y)) : ∃ v, s.heap.IsCell (ρ.getD i 0) v ∧ CellRep ρ s.heap y v ∧ ρ[i]? = some (ρ.getD i 0) := by
  obtain ⟨a, ea, ro⟩ := r.addr e
  have : ρ.getD i 0 = a := by rw [List.getD_eq_getElem?_getD, ea]; rfl
  rw [this]
  apply RepO.elim ro; intro _ _ e1 e2 e3; exact ⟨_, ⟨_, e1, e2⟩, e3, ea⟩
theorem EvE.cellv {x : Str} {pos : Pos} {i : Nat} {y : SV} (hk : κ.scope.names.lookup x = some .cell) (hc : κ.cells.lookup x = some i) (hs : σ[i]? = some (.cell (some y))) (hd : (x == ("__debug__" : Str)) = false) : EvE Z D κ loc σ (.Name x pos) y σ := fun _ s _ env ok f => by
  obtain ⟨v, h1, h2, _⟩ := ok.rel.cell hs
  cases v with
  | none => exact h2.elim
  | some v => exact wpAny_Name (wpAny_loadName_cell f.kind' ((f.kindOf x).trans hk) (by rw [f.cells.1]; exact lookup_addrs hc) h1 (Post.now0 ok h2)) hd
theorem EvE.freev {x : Str} {pos : Pos} {i : Nat} {y : SV} (hk : κ.scope.names.lookup x = some .free) (hc : κ.cells.lookup x = some i) (hs : σ[i]? = some (.cell (some y))) (hd : (x == ("__debug__" : Str)) = false) (hn : (x == ("__classdict__" : Str)) = false) : EvE Z D κ loc σ (.Name x pos) y σ := fun _ s _ env ok f => by
  obtain ⟨v, h1, h2, _⟩ := ok.rel.cell hs
  cases v with
  | none => exact h2.elim
  | some v => exact wpAny_Name (wpAny_loadName_free f.kind' ((f.kindOf x).trans hk) (by rw [f.cells.1]; exact lookup_addrs hc) h1 (Post.now0 ok h2) hn) hd

-- operators
theorem wm {α : Type} {M : Model} {A : Around} {t : Sem α} {Q Q' : α → Shared → Prop} {s : Shared} (h : wpAny M A t Q bot s) (k : ∀ a s', Q a s' → Q' a s') : wpAny M A t Q' bot s := wpAny_mono h k fun _ _ x => x
theorem Post.since {α : Type} {A : Around} {ρ ρ₁ : List Addr} {s s₁ s' : Shared} {R : List Addr → Heap → α → Prop} {a : α} (st : Step A [] ρ s ρ₁ s₁) (p : Post Z D A [] ρ₁ s₁ σ' R a s') : Post Z D A [] ρ s σ' R a s' :=
  let ⟨ρ', k, st', r⟩ := p; ⟨ρ', k, st.trans st', r⟩
theorem PostS.since {α : Type} {A : Around} {env : Env} {ρ ρ₁ : List Addr} {s s₁ s' : Shared} {R : List Addr → Heap → α → Prop} {a : α} (st : Step A [env.locals] ρ s ρ₁ s₁) (p : PostS Z D A κ env ρ₁ s₁ loc' σ' R a s') : PostS Z D A κ env ρ s loc' σ' R a s' :=
  let ⟨ρ', k, st', f, r⟩ := p; ⟨ρ', k, st.trans st', f, r⟩
theorem Step.at {A : Around} {L : Addr} {ρ ρ₁ : List Addr} {s s₁ : Shared} (p : Step A [] ρ s ρ₁ s₁) : Step A [L] ρ s ρ₁ s₁ := p.weaken (by simp)

theorem EvE.bin {l r : Expr} {op : Operator} {pos : Pos} {a b x : SV} (h1 : EvE Z D κ loc σ l a σ₁) (h2 : EvE Z D κ loc σ₁ r b σ₂) (h3 : OpB Z D op a b σ₂ x σ₃) : EvE Z D κ loc σ (.BinOp l op r pos) x σ₃ := fun A s ρ env ok f =>
  wpAny_BinOp (wm (h1 A s ρ env ok f) fun v s₁ ⟨ρ₁, k₁, st₁, r₁⟩ => wm (h2 A s₁ ρ₁ env k₁ (f.step st₁)) fun u s₂ ⟨ρ₂, k₂, st₂, r₂⟩ =>
    wm (h3 A s₂ ρ₂ v u k₂ (r₁.mono st₂.mono) r₂) fun _ _ p => p.since (st₁.trans st₂))
theorem EvE.una {e : Expr} {op : UnaryOp} {pos : Pos} {a x : SV} (h1 : EvE Z D κ loc σ e a σ₁) (h2 : OpU Z D op a σ₁ x σ₂) : EvE Z D κ loc σ (.UnaryOp op e pos) x σ₂ := fun A s ρ env ok f =>
  wpAny_UnaryOp (wm (h1 A s ρ env ok f) fun v s₁ ⟨ρ₁, k₁, st₁, r₁⟩ => wm (h2 A s₁ ρ₁ v k₁ r₁) fun _ _ p => p.since st₁)
theorem EvE.cmp {l r : Expr} {op : CmpOp} {pos : Pos} {a b x : SV} (h1 : EvE Z D κ loc σ l a σ₁) (h2 : EvE Z D κ loc σ₁ r b σ₂) (h3 : OpC Z D op a b σ₂ x σ₃) (hm : behindInMarks op r = false) : EvE Z D κ loc σ (.Compare l [op] [r] pos) x σ₃ := fun A s ρ env ok f =>
  wpAny_Compare1 (wm (h1 A s ρ env ok f) fun v s₁ ⟨ρ₁, k₁, st₁, r₁⟩ => wm (h2 A s₁ ρ₁ env k₁ (f.step st₁)) fun u s₂ ⟨ρ₂, k₂, st₂, r₂⟩ =>
    wm (h3 A s₂ ρ₂ v u k₂ (r₁.mono st₂.mono) r₂) fun _ _ p => p.since (st₁.trans st₂)) hm
theorem EvE.ifTrue {t b o : Expr} {pos : Pos} {x : SV} (h1 : EvT Z D κ loc σ t true σ₁) (h2 : EvE Z D κ loc σ₁ b x σ₂) : EvE Z D κ loc σ (.IfExp t b o pos) x σ₂ := fun A s ρ env ok f =>
  wpAny_IfExp (wm (h1 A s ρ env ok f) fun c s₁ ⟨ρ₁, k₁, st₁, r₁⟩ => by
    have r₁ : c = true := r₁
    subst r₁
    exact wm (h2 A s₁ ρ₁ env k₁ (f.step st₁)) fun _ _ p => p.since st₁)
theorem EvE.ifFalse {t b o : Expr} {pos : Pos} {x : SV} (h1 : EvT Z D κ loc σ t false σ₁) (h2 : EvE Z D κ loc σ₁ o x σ₂) : EvE Z D κ loc σ (.IfExp t b o pos) x σ₂ := fun A s ρ env ok f =>
  wpAny_IfExp (wm (h1 A s ρ env ok f) fun c s₁ ⟨ρ₁, k₁, st₁, r₁⟩ => by
    have r₁ : c = false := r₁
    subst r₁
    exact wm (h2 A s₁ ρ₁ env k₁ (f.step st₁)) fun _ _ p => p.since st₁)
-- tests
theorem EvT.cmp {l r : Expr} {op : CmpOp} {pos : Pos} {a b : SV} {c : Bool} (h1 : EvE Z D κ loc σ l a σ₁) (h2 : EvE Z D κ loc σ₁ r b σ₂) (h3 : OpC Z D op a b σ₂ (.bool c) σ₃) (hm : behindInMarks op r = false) : EvT Z D κ loc σ (.Compare l [op] [r] pos) c σ₃ := fun A s ρ env ok f =>
  wpAny_isTrue_Compare1 (wm (h1 A s ρ env ok f) fun v s₁ ⟨ρ₁, k₁, st₁, r₁⟩ => wm (h2 A s₁ ρ₁ env k₁ (f.step st₁)) fun u s₂ ⟨ρ₂, k₂, st₂, r₂⟩ =>
    wm (h3 A s₂ ρ₂ v u k₂ (r₁.mono st₂.mono) r₂) fun x s₃ ⟨ρ₃, k₃, st₃, r₃⟩ => by
      apply RepV.elim r₃; exact wpAny_truthy_bool ⟨ρ₃, k₃, (st₁.trans st₂).trans st₃, rfl⟩) hm
theorem EvT.not {e : Expr} {pos : Pos} {c : Bool} (h1 : EvT Z D κ loc σ e c σ₁) : EvT Z D κ loc σ (.UnaryOp .Not e pos) (!c) σ₁ := fun A s ρ env ok f =>
  wpAny_isTrue_Not (wm (h1 A s ρ env ok f) fun x s₁ ⟨ρ₁, k₁, st₁, r₁⟩ => ⟨ρ₁, k₁, st₁, by have r₁ : x = c := r₁; subst r₁; rfl⟩)
theorem EvT.val {e : Expr} {a : SV} {c : Bool} (h1 : EvE Z D κ loc σ e a σ₁) (h2 : Tru Z D a σ₁ c σ₂) (he : ∀ env whole, isTrue e env whole = (do let v ← whole; standAt e.pos; holding [v] (truthy v))) : EvT Z D κ loc σ e c σ₂ := fun A s ρ env ok f =>
  wpAny_isTrue_value (wm (h1 A s ρ env ok f) fun v s₁ ⟨ρ₁, k₁, st₁, r₁⟩ => wm (h2 A s₁ ρ₁ v k₁ r₁) fun _ _ p => p.since st₁) (he _ _)
theorem EvT.or2 {x y : Expr} {pos : Pos} {c : Bool} (h1 : EvT Z D κ loc σ x false σ₁) (h2 : EvT Z D κ loc σ₁ y c σ₂) : EvT Z D κ loc σ (.BoolOp .Or [x, y] pos) c σ₂ := fun A s ρ env ok f =>
  wpAny_isTrue_BoolOp (wpAny_allTrue_Or_cons (wm (h1 A s ρ env ok f) fun b s₁ ⟨ρ₁, k₁, st₁, r₁⟩ => by
    have r₁ : b = false := r₁
    subst r₁
    exact wpAny_allTrue_Or_cons (wm (h2 A s₁ ρ₁ env k₁ (f.step st₁)) fun d s₂ ⟨ρ₂, k₂, st₂, r₂⟩ => by
      have r₂ : d = c := r₂
      subst r₂
      cases d with
      | true => exact ⟨ρ₂, k₂, st₁.trans st₂, rfl⟩
      | false => exact wpAny_allTrue_Or_nil ⟨ρ₂, k₂, st₁.trans st₂, rfl⟩)))
/-- «x and y» as a value, both bools -/
theorem EvE.and2 {x y : Expr} {pos : Pos} {a : SV} {c : SV} (h1 : EvE Z D κ loc σ x a σ₁) (ht : Tru Z D a σ₁ true σ₂) (h2 : EvE Z D κ loc σ₂ y c σ₃) : EvE Z D κ loc σ (.BoolOp .And [x, y] pos) c σ₃ := fun A s ρ env ok f =>
  wpAny_And2 (wm (h1 A s ρ env ok f) fun v s₁ ⟨ρ₁, k₁, st₁, r₁⟩ => wm (ht A s₁ ρ₁ v k₁ r₁) fun b s₂ ⟨ρ₂, k₂, st₂, r₂⟩ => by
    have r₂ : b = true := r₂
    subst r₂
    exact wm (h2 A s₂ ρ₂ env k₂ ((f.step st₁).step st₂)) fun _ _ p => p.since (st₁.trans st₂))

-- the operators' values
section
variable {a b : Int} {x y : Str}
theorem OpB.add : OpB Z D .Add (.int a) (.int b) σ (.int (a + b)) σ :=
  Bin.ii fun A s ρ _ _ ok => P.add_int (Post.now ok _ (.int _ _))
theorem OpB.sub : OpB Z D .Sub (.int a) (.int b) σ (.int (a - b)) σ :=
  Bin.ii fun A s ρ _ _ ok => P.sub_int (Post.now ok _ (.int _ _))
theorem OpB.mul (ha : Sz a) (hb : Sz b) : OpB Z D .Mult (.int a) (.int b) σ (.int (a * b)) σ :=
  Bin.ii fun A s ρ _ _ ok => P.mul_int (Post.now ok _ (.int _ _)) (ha.mul hb)
theorem OpB.fdiv (h0 : b ≠ 0) (hb : Sz b) : OpB Z D .FloorDiv (.int a) (.int b) σ (.int (a.fdiv b)) σ :=
  Bin.ii fun A s ρ _ _ ok => floordiv_int h0 (Post.now ok _ (.int _ _)) (.inl hb.div)
theorem OpB.fmod (h0 : b ≠ 0) : OpB Z D .Mod (.int a) (.int b) σ (.int (a.fmod b)) σ :=
  Bin.ii fun A s ρ _ _ ok => mod_int' h0 (Post.now ok _ (.int _ _))
theorem OpB.shl (h0 : 0 ≤ b) (h1 : b ≤ 1000000) (ha : Sz a) : OpB Z D .LShift (.int a) (.int b) σ (.int (a * 2 ^ b.toNat)) σ :=
  Bin.ii fun A s ρ _ _ ok => lshift_int h0 (by have := ha.bits; omega) (Post.now ok _ (.int _ _))
theorem OpB.shr (h0 : 0 ≤ b) : OpB Z D .RShift (.int a) (.int b) σ (.int (a.fdiv (2 ^ b.toNat))) σ :=
  Bin.ii fun A s ρ _ _ ok => rshift_int h0 (Post.now ok _ (.int _ _))
theorem OpB.xor : OpB Z D .BitXor (.int a) (.int b) σ (.int (Builtin.bitXor a b)) σ :=
  Bin.ii fun A s ρ _ _ ok => xor_int (Post.now ok _ (.int _ _))
theorem OpB.pow (h0 : 0 ≤ b) (h1 : b ≤ 1000000) (ha : a.natAbs < 2 ^ 64) : OpB Z D .Pow (.int a) (.int b) σ (.int (a ^ b.toNat)) σ :=
  Bin.ii fun A s ρ _ _ ok => pow_int_small h0 h1 ha (Post.now ok _ (.int _ _))
theorem OpI.add : OpI Z D .Add (.int a) (.int b) σ (.int (a + b)) σ :=
  Bin.ii fun A s ρ _ _ ok => P.iadd_int (Post.now ok _ (.int _ _))
theorem OpI.mul (ha : Sz a) (hb : Sz b) : OpI Z D .Mult (.int a) (.int b) σ (.int (a * b)) σ :=
  Bin.ii fun A s ρ _ _ ok => P.imul_int (Post.now ok _ (.int _ _)) (ha.mul hb)
theorem OpI.fdiv (h0 : b ≠ 0) (hb : Sz b) : OpI Z D .FloorDiv (.int a) (.int b) σ (.int (a.fdiv b)) σ :=
  Bin.ii fun A s ρ _ _ ok => ifloordiv_int h0 (Post.now ok _ (.int _ _)) (.inl hb.div)
theorem OpC.eq : OpC Z D .Eq (.int a) (.int b) σ (.bool (a == b)) σ :=
  Bin.ii fun A s ρ _ _ ok => P.eq_int (Post.now0 ok (.bool _))
theorem OpC.ne : OpC Z D .NotEq (.int a) (.int b) σ (.bool (a != b)) σ :=
  Bin.ii fun A s ρ _ _ ok => P.ne_int (Post.now0 ok (.bool _))
theorem OpC.lt : OpC Z D .Lt (.int a) (.int b) σ (.bool (decide (a < b))) σ :=
  Bin.ii fun A s ρ _ _ ok => P.lt_int (Post.now0 ok (.bool _))
theorem OpC.le : OpC Z D .LtE (.int a) (.int b) σ (.bool (decide (a ≤ b))) σ :=
  Bin.ii fun A s ρ _ _ ok => P.le_int (Post.now0 ok (.bool _))
theorem OpC.gt : OpC Z D .Gt (.int a) (.int b) σ (.bool (decide (a > b))) σ :=
  Bin.ii fun A s ρ _ _ ok => P.gt_int (Post.now0 ok (.bool _))
theorem OpC.ge : OpC Z D .GtE (.int a) (.int b) σ (.bool (decide (a ≥ b))) σ :=
  Bin.ii fun A s ρ _ _ ok => P.ge_int (Post.now0 ok (.bool _))
theorem OpC.eqs : OpC Z D .Eq (.str x) (.str y) σ (.bool (x == y)) σ :=
  Bin.ss fun A s ρ _ _ ok => PyProof.Rows.eq_str (Post.now0 ok (.bool _))
theorem OpC.nes : OpC Z D .NotEq (.str x) (.str y) σ (.bool (x != y)) σ :=
  Bin.ss fun A s ρ _ _ ok => PyProof.Rows.ne_str (Post.now0 ok (.bool _))
theorem OpC.ins : OpC Z D .In (.str y) (.str x) σ (.bool !(Builtin.Str.occurrences x y 0 x.length 1).isEmpty) σ :=
  Bin.ss fun A s ρ _ _ ok => PyProof.Rows.in_str (Post.now0 ok (.bool _))
theorem OpB.adds (h : x.length + y.length ≤ sizeLine) : OpB Z D .Add (.str x) (.str y) σ (.str (x ++ y)) σ :=
  Bin.ss fun A s ρ _ _ ok => PyProof.Rows.add_str (fun _ _ => Post.now ok _ (.str _ _)) h
theorem OpI.adds (h : x.length + y.length ≤ sizeLine) : OpI Z D .Add (.str x) (.str y) σ (.str (x ++ y)) σ :=
  Bin.ss fun A s ρ _ _ ok => PyProof.Rows.iadd_str (fun _ _ => Post.now ok _ (.str _ _)) h
theorem GetI.str {i : Int} {c : Nat} (hr : (decide (i < -(2 ^ 63 : Int)) || decide (i ≥ 2 ^ 63)) = false) (hc : (seqIndex? i x.length).bind (x.cps[·]?) = some c) : GetI Z D (.str x) (.int i) σ (.str ⟨#[c]⟩) σ := by
  intro A s ρ v u ok r1 r2; apply RepV.elim r1; intro _; apply RepV.elim r2; intro _; exact PyProof.Rows.getItem_str hr hc (Post.now ok _ (.str _ _))
theorem OpU.inv : OpU Z D .Invert (.int a) σ (.int (Builtin.bitNot a)) σ := by
  intro A s ρ v ok r1; apply RepV.elim r1; intro _; exact invert_int (Post.now ok _ (.int _ _))
theorem OpU.neg : OpU Z D .USub (.int a) σ (.int (-a)) σ := by
  intro A s ρ v ok r1; apply RepV.elim r1; intro _; exact P.neg_int (Post.now ok _ (.int _ _))
theorem Tru.int : Tru Z D (.int a) σ (a != 0) σ := by
  intro A s ρ v ok r1; apply RepV.elim r1; intro _; exact P.truthy_int (Post.now0 ok rfl)
theorem Tru.bool {c : Bool} : Tru Z D (.bool c) σ c σ := by
  intro A s ρ v ok r1; apply RepV.elim r1; exact wpAny_truthy_bool (Post.now0 ok rfl)
end
end
end Mine

namespace Mine
open PySem PySem.W PyProof.Rows PySem.Calls

section
variable {Z : Zt} {D : Nat} {κ : Ctx} {loc loc' loc₁ : Loc} {σ σ' σ₁ σ₂ σ₃ : List SObj}

theorem RelH.k (hZ : Z.Ok) {ρ : List Addr} {s : Shared} (r : RelH Z ρ σ s) : Z.K.In s.heap := fun a o e => r.base a o (hZ.k a o e)

-- argument lists
theorem EvL.nil : EvL Z D κ loc σ [] [] σ := fun _ _ _ _ _ ok _ => wpAny_items_nil (Post.now0 ok RepVs.nil)
theorem EvL.cons {e : Expr} {es : List Expr} {r : SV} {rs : List SV} (h1 : EvE Z D κ loc σ e r σ₁) (h2 : EvL Z D κ loc σ₁ es rs σ₂) (he : ∀ env, starEach (e :: es) env = (false, eval e env) :: starEach es env) : EvL Z D κ loc σ (e :: es) (r :: rs) σ₂ := fun A s ρ env pos ok f =>
  wpAny_items_cons (wm (h1 A s ρ env ok f) fun v s₁ ⟨ρ₁, k₁, st₁, r₁⟩ => wm (h2 A s₁ ρ₁ env pos k₁ (f.step st₁)) fun vs s₂ ⟨ρ₂, k₂, st₂, r₂⟩ =>
    ⟨ρ₂, k₂, st₁.trans st₂, .cons (r₁.mono st₂.mono) r₂⟩) (he env)

-- calls
noncomputable def KeepSV (Z : Zt) : SV → Prop
  | .fix v => (∃ id, v = .builtin id) ∨ (∃ T, v = .type T) ∨ keepIn Z.K v = true
  | .clos _ _ => True
  | _ => False

noncomputable def KeepAt (h : Heap) (v : Value) : Prop := ∃ k, (k = Keeper.frame ∨ k = Keeper.machine ∨ k = Keeper.boundFrame) ∧ ∀ M, Looks M h (keeperOf v) k

theorem keepAt_of (hZ : Z.Ok) {ρ : List Addr} {s : Shared} {f : SV} {v : Value} (r : RelH Z ρ σ s) (hk : KeepSV Z f) (hv : RepV ρ s.heap f v) : KeepAt s.heap v := by
  cases hv with
  | fix v =>
    rcases hk with ⟨id, rfl⟩ | ⟨T, rfl⟩ | hk
    · exact ⟨.machine, .inr (.inl rfl), fun M => Looks.now⟩
    · exact ⟨.machine, .inr (.inl rfl), fun M => Looks.now⟩
    · obtain ⟨k, h1, _⟩ := keeps_K (M := model Z.prog Z.w) hk s.heap (r.k hZ)
      unfold keepIn at hk
      split at hk
      · rename_i a
        split at hk
        · rename_i c d fd sl e
          refine ⟨.frame, .inl rfl, fun M A Q E s' kp q => ?_⟩
          unfold keeperOf
          exact wpAny_bind (wpAny_load (kp _ _ (r.k hZ _ _ e)) (wpAny_pure q))
        · rename_i c d cd sl e
          refine ⟨.machine, .inr (.inl rfl), fun M A Q E s' kp q => ?_⟩
          unfold keeperOf
          refine wpAny_bind (wpAny_load (kp _ _ (r.k hZ _ _ e)) ?_)
          refine wpAny_bind (looks_specialIn (r.k hZ) (beq_iff_eq.mp hk) A _ E s' kp ?_)
          exact wpAny_pure q
        · cases hk
      · cases hk
  | clos e hc hd hcs ec hcc hdc hv hnc =>
    refine ⟨.frame, .inl rfl, fun M A Q E s' kp q => ?_⟩
    unfold keeperOf
    refine wpAny_bind (wpAny_load (kp _ _ e) ?_)
    rw [hd]
    exact wpAny_pure q
  | _ => exact hk.elim

theorem backTo_plain {es : List Expr} {env : Env} {pos : Pos} (he : (starEach es env).all (fun x => !x.1) = true) : (backTo pos (starEach es env)).any (·.1) = false := by
  unfold backTo
  rw [List.any_map]
  rw [List.any_eq_false]
  intro x hx
  have := List.all_eq_true.mp he x hx
  simpa using this

theorem evalArgs_of {M : Model} {A : Around} {s : Shared} {f : Value} {es : List Expr} {env : Env} {pos : Pos} {Q : Args → Shared → Prop} (he : (starEach es env).all (fun x => !x.1) = true)
    (h : wpAny M A (spliced (backTo pos (starEach es env))) (fun vs s' => Q ⟨vs, []⟩ s') bot s) : wpAny M A (evalArgs f true (backTo pos (starEach es env)) []) Q bot s := by
  cases hl : starEach es env with
  | nil =>
    rw [hl] at h
    have : backTo pos ([] : List (Bool × Sem Value)) = [] := rfl
    rw [this] at h ⊢
    unfold evalArgs
    show wpAny M A (spliced [] >>= _) Q bot s
    refine wpAny_bind (wm h fun vs s' h' => ?_)
    refine wpAny_bind (wpAny_pure ?_)
    refine wpAny_holding ?_
    exact wpAny_bind (wpAny_pure (wpAny_bind (wpAny_pure (wpAny_pure h'))))
  | cons x r =>
    rw [hl] at h he
    obtain ⟨b, t⟩ := x
    have hb : b = false := by
      have := List.all_eq_true.mp he (b, t) (.head _)
      simpa using this
    subst hb
    exact evalArgs_plain h

theorem callWith_gen {M : Model} {A : Around} {s : Shared} {pos : Pos} {f : Value} {first : List Value} {es : List Expr} {env : Env} {Q : Value → Shared → Prop} (he : (starEach es env).all (fun x => !x.1) = true)
    (h : wpAny M A (spliced (backTo pos (starEach es env))) (fun vs s₁ => KeepAt s₁.heap f ∧ wpAny M A (call f (first ++ vs)) Q bot s₁) bot s) :
    wpAny M A (callWith pos f first (backTo pos (starEach es env)) []) Q bot s := by
  refine callWith_of (P := fun h => KeepAt h f) (by rw [backTo_plain he]; rfl) (fun h hk => let ⟨k, a, b⟩ := hk; ⟨k, a, b M⟩) (evalArgs_of he h)

theorem EvE.call (hZ : Z.Ok) {x : Str} {np pos : Pos} {es : List Expr} {f : SV} {rs : List SV} {r : SV} (h1 : EvE Z D κ loc σ (.Name x np) f σ₁) (h2 : EvL Z D κ loc σ₁ es rs σ₂) (hk : KeepSV Z f) (h3 : Call Z D f rs σ₂ r σ₃)
    (he : ∀ env, (starEach es env).all (fun x => !x.1) = true) : EvE Z D κ loc σ (.Call (.Name x np) es [] pos) r σ₃ := fun A s ρ env ok fr =>
  wpAny_Call_ofName (wm (h1 A s ρ env ok fr) fun v s₁ ⟨ρ₁, k₁, st₁, r₁⟩ => callWith_gen (he env) (wm (h2 A s₁ ρ₁ env pos k₁ (fr.step st₁)) fun vs s₂ ⟨ρ₂, k₂, st₂, r₂⟩ =>
    ⟨keepAt_of hZ k₂.rel hk (r₁.mono st₂.mono), wm (h3 A s₂ ρ₂ (v :: vs) k₂ (.cons (r₁.mono st₂.mono) r₂)) fun _ _ p => p.since (st₁.trans st₂)⟩))

-- lists
theorem RelH.listAt {ρ : List Addr} {s : Shared} (r : RelH Z ρ σ s) {i : Nat} {xs : List SV} {v : Value} (e : σ[i]? = some (.list xs)) (hv : RepV ρ s.heap (.obj i) v) :
    ∃ a vs n, v = .ref a ∧ ρ[i]? = some a ∧ s.heap.get? a = some ⟨.type "list", none, .seq vs.toArray n, #[]⟩ ∧ RepVs ρ s.heap xs vs := by
  apply r.atE e hv; intro a ha vs n h1 h2
  exact ⟨a, _, _, rfl, ha, h1, h2⟩
theorem RelH.listE {ρ : List Addr} {s : Shared} (r : RelH Z ρ σ s) {i : Nat} {xs : List SV} {v : Value} (e : σ[i]? = some (.list xs)) (hv : RepV ρ s.heap (.obj i) v) {P : Value → Prop}
    (k : ∀ a vs n, ρ[i]? = some a → s.heap.get? a = some ⟨.type "list", none, .seq vs.toArray n, #[]⟩ → RepVs ρ s.heap xs vs → P (.ref a)) : P v :=
  r.atE e hv fun a ha vs n h1 h2 => k a vs n ha h1 h2
theorem RelH.listRef {ρ : List Addr} {s : Shared} (r : RelH Z ρ σ s) {i : Nat} {xs : List SV} {b : Addr} (e : σ[i]? = some (.list xs)) (h : ρ[i]? = some b) : ∃ vs n, s.heap.get? b = some ⟨.type "list", none, .seq vs.toArray n, #[]⟩ ∧ RepVs ρ s.heap xs vs :=
  (r.objs i _ b e h).elim fun vs n h1 h2 => ⟨vs, n, h1, h2⟩
theorem RepVs.get {ρ : List Addr} {h : Heap} {xs : List SV} {vs : List Value} (r : RepVs ρ h xs vs) {k : Nat} {x : SV} (e : xs[k]? = some x) : ∃ v, vs[k]? = some v ∧ RepV ρ h x v := by
  have hk : k < vs.length := by rw [← r.1]; exact (List.getElem?_eq_some_iff.mp e).1
  exact ⟨_, List.getElem?_eq_getElem hk, r.2 k x _ e (List.getElem?_eq_getElem hk)⟩
theorem isList_of {h : Heap} {a : Addr} {vs : List Value} {n : Nat} (e : h.get? a = some ⟨.type "list", none, .seq vs.toArray n, #[]⟩) : h.IsList a vs.toArray := ⟨_, e, rfl, n, rfl⟩

theorem GetI.list {i : Nat} {k : Int} {xs : List SV} {x : SV} (e : σ[i]? = some (.list xs)) (h0 : 0 ≤ k) (h1 : k < 2 ^ 63) (hx : xs[k.toNat]? = some x) : GetI Z D (.obj i) (.int k) σ x σ := by
  intro A s ρ v u ok r1 r2
  apply RelH.listE ok.rel e r1; intro a vs n _ hl hr
  obtain ⟨v, ev, rv⟩ := hr.get hx
  apply RepV.elim r2; intro _
  exact wpAny_getItem_list (isList_of hl) h0 h1 (by simpa using ev) (Post.now0 ok rv)
theorem GetI.listNeg {i : Nat} {k : Int} {xs : List SV} {x : SV} (e : σ[i]? = some (.list xs)) (h0 : k < 0) (h1 : -(xs.length : Int) ≤ k) (h2 : -(2 ^ 63) ≤ k) (hx : xs[(k + xs.length).toNat]? = some x) : GetI Z D (.obj i) (.int k) σ x σ := by
  intro A s ρ v u ok r1 r2
  apply RelH.listE ok.rel e r1; intro a vs n _ hl hr
  obtain ⟨v, ev, rv⟩ := hr.get hx
  apply RepV.elim r2; intro _
  have hlen := hr.1
  exact wpAny_getItem_list_neg (isList_of hl) h0 (by simp; (first | lia | omega)) h2 (by simpa [← hlen] using ev) (Post.now0 ok rv)

theorem RepVs.set {ρ : List Addr} {h : Heap} {xs : List SV} {vs : List Value} (r : RepVs ρ h xs vs) {k : Nat} {x : SV} {v : Value} (rx : RepV ρ h x v) : RepVs ρ h (xs.set k x) (vs.set k v) := by
  refine ⟨by simp [r.1], fun i y u e1 e2 => ?_⟩
  by_cases q : k = i
  · subst q
    by_cases hk : k < xs.length
    · rw [List.getElem?_set_self hk] at e1
      rw [List.getElem?_set_self (by rw [← r.1]; exact hk)] at e2
      cases e1; cases e2; exact rx
    · have := (List.getElem?_eq_some_iff.mp e1).1
      simp at this; (first | lia | omega)
  · rw [List.getElem?_set_ne q] at e1 e2
    exact r.2 i y u e1 e2
theorem RepVs.push {ρ : List Addr} {h : Heap} {xs : List SV} {vs : List Value} (r : RepVs ρ h xs vs) {x : SV} {v : Value} (rx : RepV ρ h x v) : RepVs ρ h (xs ++ [x]) (vs ++ [v]) := by
  refine ⟨by simp [r.1], fun i y u e1 e2 => ?_⟩
  by_cases hi : i < xs.length
  · rw [List.getElem?_append_left hi] at e1
    rw [List.getElem?_append_left (by rw [← r.1]; exact hi)] at e2
    exact r.2 i y u e1 e2
  · have h1 := (List.getElem?_eq_some_iff.mp e1).1
    simp at h1
    have : i = xs.length := by (first | lia | omega)
    subst this
    rw [List.getElem?_concat_length] at e1
    rw [r.1, List.getElem?_concat_length] at e2
    cases e1; cases e2; exact rx
theorem RepVs.append {ρ : List Addr} {h : Heap} {xs ys : List SV} {vs us : List Value} (r : RepVs ρ h xs vs) (r' : RepVs ρ h ys us) : RepVs ρ h (xs ++ ys) (vs ++ us) := by
  refine ⟨by simp [r.1, r'.1], fun i y u e1 e2 => ?_⟩
  by_cases hi : i < xs.length
  · rw [List.getElem?_append_left hi] at e1
    rw [List.getElem?_append_left (by rw [← r.1]; exact hi)] at e2
    exact r.2 i y u e1 e2
  · rw [List.getElem?_append_right (by (first | lia | omega))] at e1
    rw [List.getElem?_append_right (by rw [← r.1]; (first | lia | omega)), ← r.1] at e2
    exact r'.2 _ y u e1 e2
theorem RepVs.reverse {ρ : List Addr} {h : Heap} {xs : List SV} {vs : List Value} (r : RepVs ρ h xs vs) : RepVs ρ h xs.reverse vs.reverse := by
  refine ⟨by simp [r.1], fun i y u e1 e2 => ?_⟩
  have h1 := (List.getElem?_eq_some_iff.mp e1).1
  simp at h1
  rw [List.getElem?_reverse h1] at e1
  rw [List.getElem?_reverse (by rw [← r.1]; exact h1), ← r.1] at e2
  exact r.2 _ y u e1 e2

theorem mapSeq_list (vs : List Value) (n : Nat) (f : Array Value → Array Value) (us : List Value) (h : f vs.toArray = us.toArray) :
    ∃ m, Obj.mapSeq f ⟨.type "list", none, .seq vs.toArray n, #[]⟩ = ⟨.type "list", none, .seq us.toArray m, #[]⟩ := by
  refine ⟨if (f vs.toArray).size == vs.toArray.size then n else n + 1, ?_⟩
  show (⟨Value.type "list", none, .seq (f vs.toArray) (if (f vs.toArray).size == vs.toArray.size then n else n + 1), #[]⟩ : Obj) = _
  rw [h]
/-- a list is turned in place -/
theorem Post.setList {α : Type} {A : Around} {ρ : List Addr} {s : Shared} {R : List Addr → Heap → α → Prop} {x : α} {a : Addr} {i : Nat} {vs us : List Value} {ys : List SV} {n : Nat} {f : Array Value → Array Value} (k : Okh Z D A ρ σ s) (t : Nat)
    (ha : ρ[i]? = some a) (hl : s.heap.get? a = some ⟨.type "list", none, .seq vs.toArray n, #[]⟩) (hf : f vs.toArray = us.toArray) (hr : RepVs ρ s.heap ys us) (r : ∀ ρ h, R ρ h x) :
    Post Z D A [] ρ s (σ.set i (.list ys)) R x { s with heap := s.heap.update a (Obj.mapSeq f), toks := t } := by
  obtain ⟨m, e⟩ := mapSeq_list vs n f us hf
  have e' : (s.heap.update a (Obj.mapSeq f)).get? a = some ⟨.type "list", none, .seq us.toArray m, #[]⟩ := by
    rw [← e]
    exact Heap.get?_update_self _ hl (by rw [e]; rfl)
  exact Post.set k t ha (Heap.SameBut.update ..).extBut ⟨_, e'⟩ (fun M => .list e' (hr.mono M)) fun _ => r _ _

/-- an item put into a list, the heap told exactly -/
theorem setItem_exact {A : Around} {s : Shared} {l : Addr} {vs : List Value} {n : Nat} {j : Nat} {t : Tok} {v : Value} {Q : Unit → Shared → Prop} (ho : s.heap.get? l = some ⟨.type "list", none, .seq vs.toArray n, #[]⟩)
    (hfit : (j : Int) < 2 ^ 63) (hn : j < vs.length) (hQ : Q () { s with heap := s.heap.update l (Obj.mapSeq (·.setIfInBounds j v)) }) : wpAny (model Z.prog Z.w) A (setItem (.ref l) (.int j t) v) Q bot s := by
  have hl := isList_of ho
  have hv : vs.toArray[j]? = some vs[j] := by simp [hn]
  obtain ⟨k, hk⟩ : ∃ k : Int, k = (j : Int) := ⟨_, rfl⟩
  have hf' : Builtin.List.listFitsIndex k = true := by rw [hk]; exact fitsIndex_of (Int.natCast_nonneg j) hfit
  rw [← hk]
  clear hfit
  unfold setItem
  refine wpAny_holding ?_
  refine wpAny_bind (wpAny_sequenceKey hl.typeIs (by decide) (wpAny_bind (wpAny_callSpecial?_slot (name := Str.ofString "__setitem__") hl.typeIs slot_list_setitem
    (wpAny_call_entry slot_list_setitem hl.typeIs entry_list_setitem ?_ (args_list_setitem _ _ _)))))
  show wpAny _ _ (Builtin.List.listSubscript? (.int k t) >>= _) _ _ s
  refine wpAny_bind (wpAny_listSubscript_int hf' ?_)
  subst hk
  show wpAny _ _ ((seqItemAt l j >>= fun r => pure (r.map (j, ·))) >>= _) _ _ s
  refine wpAny_bind (wpAny_bind (wpAny_seqItemAt ho rfl (wpAny_pure ?_)))
  rw [hv]
  show wpAny _ _ (setSeqItemAt l j v >>= _) _ _ s
  exact wpAny_bind (wpAny_setSeqItemAt ho rfl (wpAny_bind (wpAny_pure (wpAny_pure ⟨.none, rfl, wpAny_pure hQ⟩))))

theorem SetI.list {i : Nat} {j : Nat} {xs : List SV} {x : SV} (e : σ[i]? = some (.list xs)) (h1 : (j : Int) < 2 ^ 63) (h2 : j < xs.length) : SetI Z D (.obj i) (.int j) x σ (σ.set i (.list (xs.set j x))) := by
  intro A s ρ v u y ok r1 r2 r3
  apply RelH.listE ok.rel e r1; intro a vs n ha hl hr
  apply RepV.elim r2; intro _
  exact setItem_exact hl h1 (by rw [← hr.1]; exact h2) (Post.setList ok _ ha hl (us := vs.set j y) (by simp) (hr.set r3) fun _ _ => trivial)
end
end Mine

namespace Mine
open PySem PySem.W PyProof.Rows PySem.Calls

noncomputable def upd : Loc → Str → SV → Loc
  | [], x, v => [(x, v)]
  | (y, w) :: r, x, v => if y = x then (x, v) :: r else (y, w) :: upd r x v
theorem upd_lookup (loc : Loc) (x y : Str) (v : SV) : (upd loc x v).lookup y = if y = x then some v else loc.lookup y := by
  induction loc with
  | nil =>
    show List.lookup y [(x, v)] = _
    rw [List.lookup_cons]
    by_cases h : y = x
    · subst h; simp
    · have hb : (y == x) = false := by simpa using h
      rw [hb, if_neg h]
      try rfl
  | cons p r ih =>
    obtain ⟨z, w⟩ := p
    unfold upd
    by_cases hz : z = x
    · subst hz
      rw [if_pos rfl, List.lookup_cons, List.lookup_cons]
      by_cases h : y = z
      · subst h; simp
      · have hb : (y == z) = false := by simpa using h
        rw [hb, if_neg h]
    · rw [if_neg hz, List.lookup_cons, List.lookup_cons, ih]
      by_cases h : y = x
      · subst h
        have hb : (y == z) = false := by simpa using fun q => hz q.symm
        rw [hb]
      · rw [if_neg h, if_neg h]

/-- the table behind a store, written out -/
inductive Upd : Loc → Str → SV → Loc → Prop
  | new {x : Str} {v : SV} : Upd [] x v [(x, v)]
  | here {x : Str} {v w : SV} {r : Loc} : Upd ((x, w) :: r) x v ((x, v) :: r)
  | there {x y : Str} {v w : SV} {r r' : Loc} : (y == x) = false → Upd r x v r' → Upd ((y, w) :: r) x v ((y, w) :: r')
theorem Upd.eq {loc loc' : Loc} {x : Str} {v : SV} (u : Upd loc x v loc') : loc' = upd loc x v := by
  induction u with
  | new => rfl
  | here => unfold upd; rw [if_pos rfl]
  | there h _ ih => unfold upd; rw [if_neg (by simpa using h), ih]

section
variable {Z : Zt} {D : Nat} {κ : Ctx} {loc loc' loc₁ loc₂ : Loc} {σ σ' σ₁ σ₂ σ₃ : List SObj}

theorem NsRep.upd {ρ : List Addr} {h : Heap} {m : Str → Option Value} {x : Str} {y : SV} {v : Value} (r : NsRep ρ h loc m) (rv : RepV ρ h y v) : NsRep ρ h (upd loc x y) (fun z => if z = x then some v else m z) := fun z u e => by
  rw [upd_lookup] at e
  by_cases hz : z = x
  · subst hz
    simp only [if_true] at e ⊢
    cases e
    exact ⟨v, rfl, rv⟩
  · simp only [if_neg hz] at e ⊢
    exact r z u e

/-- the frame's table is turned -/
theorem PostS.store {α : Type} {A : Around} {env : Env} {ρ : List Addr} {s : Shared} {h' : Heap} {m' : Str → Option Value} {R : List Addr → Heap → α → Prop} {a : α} (k : Okh Z D A ρ σ s) (f : FrH Z κ env ρ loc s) (t : Nat)
    (hn : h'.Ns env.locals m') (hs : Heap.ExtBut env.locals s.heap h') (hl : Mono ρ s.heap ρ h' → NsRep ρ h' loc' m') (r : Mono ρ s.heap ρ h' → R ρ h' a) : PostS Z D A κ env ρ s loc' σ R a { s with heap := h', toks := t } := by
  obtain ⟨m, n1, n2⟩ := f.ns
  obtain ⟨o, es, ep, e1, e2, _, _⟩ := id n1
  obtain ⟨o', es', ep', e1', e2', _, _⟩ := id hn
  have hd : ∀ q, s.heap.get? env.locals = some q → ∃ es n, q.data = .dict es n := fun q e => by rw [e1] at e; cases e; exact ⟨_, _, e2⟩
  have rel := k.rel.but (t := t) hs f.lρ f.lH f.ltb hd
  have mo : Mono ρ s.heap ρ h' := .but hs fun q e => .inl fun i => let ⟨es, n, d⟩ := hd q e; i.1 es n d
  have st : Step A [env.locals] ρ s ρ { s with heap := h', toks := t } := ⟨mo, fun a o e => by
    by_cases q : a = env.locals
    · subst q; exact ⟨o', e1'⟩
    · exact ⟨o, hs a o q e⟩, fun a o _ _ e d _ hx => ⟨o, hs a o (by simpa using hx) e, d, fun _ => rfl⟩⟩
  refine ⟨ρ, ⟨k.depth, k.units, k.handled, ?_, rel⟩, st, { f with ns := ⟨m', hn, hl mo⟩ }, r mo⟩
  obtain ⟨outer, h1, h2⟩ := k.frames
  refine ⟨outer, h1, fun e he => ?_⟩
  obtain ⟨L, q1, q2, q3, q4, q5, oL, eL, nL, q6, q7⟩ := h2 e he
  by_cases hL : L = env.locals
  · subst hL
    exact ⟨_, q1, q2, q3, q4, q5, o', es', ep', e1', e2'⟩
  · exact ⟨L, q1, q2, q3, q4, q5, oL, eL, nL, hs L oL hL q6, q7⟩

theorem storeLocal {A : Around} {env : Env} {ρ : List Addr} {s : Shared} {x : Str} {y : SV} {v : Value} (k : Okh Z D A ρ σ s) (f : FrH Z κ env ρ loc s) (hk : κ.scope.names.lookup x = some .local) (rv : RepV ρ s.heap y v) (hu : Upd loc x y loc') :
    wpAny (model Z.prog Z.w) A (storeName env x v) (PostS Z D A κ env ρ s loc' σ (fun _ _ (_ : Unit) => True)) bot s := by
  obtain ⟨m, n1, n2⟩ := f.ns
  refine wpAny_storeName_local ((f.kindOf x).trans hk) n1 (fun h' hn hs => ?_) f.noMod
  rw [hu.eq]
  exact PostS.store k f _ hn hs.extBut (fun M => (n2.mono M).upd (rv.mono M)) fun _ => trivial

theorem EvA.var {x : Str} {pos : Pos} {y : SV} (hk : κ.scope.names.lookup x = some .local) (hu : Upd loc x y loc') : EvA Z D κ loc σ (.Name x pos) y loc' σ := fun _ _ _ _ _ ok f rv =>
  wpAny_assign_Name (storeLocal ok f hk rv hu)

theorem storeCell {A : Around} {env : Env} {ρ : List Addr} {s : Shared} {x : Str} {y : SV} {v : Value} {i : Nat} {y₀ : Option SV} (k : Okh Z D A ρ σ s) (f : FrH Z κ env ρ loc s) (hk : κ.scope.names.lookup x = some .cell) (hc : κ.cells.lookup x = some i)
    (hs : σ[i]? = some (.cell y₀)) (rv : RepV ρ s.heap y v) :
    wpAny (model Z.prog Z.w) A (storeName env x v) (PostS Z D A κ env ρ s loc (σ.set i (.cell (some y))) (fun _ _ (_ : Unit) => True)) bot s := by
  obtain ⟨v₀, h1, h2, h3⟩ := k.rel.cell hs
  refine wpAny_storeName_cell f.kind' ((f.kindOf x).trans hk) (by rw [f.cells.1]; exact lookup_addrs hc) h1 fun h' hc' hs' => ?_
  obtain ⟨o', e1, e2⟩ := hc'
  exact PostS.of_post f (Post.set k _ h3 hs'.extBut ⟨o', e1⟩ (fun M => .cell e1 e2 (show CellRep ρ h' (some y) (some v) from rv.mono M)) fun _ => trivial)
theorem EvA.cell {x : Str} {pos : Pos} {y : SV} {i : Nat} {y₀ : Option SV} (hk : κ.scope.names.lookup x = some .cell) (hc : κ.cells.lookup x = some i) (hs : σ[i]? = some (.cell y₀)) : EvA Z D κ loc σ (.Name x pos) y loc (σ.set i (.cell (some y))) := fun _ _ _ _ _ ok f rv =>
  wpAny_assign_Name (storeCell ok f hk hc hs rv)

-- statements
theorem EvSs.nil : EvSs Z D κ loc σ [] .next loc σ := fun _ _ _ _ ok f => wpAny_execs_nil (PostS.of_post f (Post.now0 ok .next))
theorem EvSs.cons {st : Stmt} {rest : List Stmt} {f : AF} (h1 : EvS Z D κ loc σ st .next loc₁ σ₁) (h2 : EvSs Z D κ loc₁ σ₁ rest f loc₂ σ₂) : EvSs Z D κ loc σ (st :: rest) f loc₂ σ₂ := fun A s ρ env ok fr =>
  wpAny_execs_cons (wm (h1 A s ρ env ok fr) fun fl s₁ ⟨ρ₁, k₁, st₁, f₁, r₁⟩ => by
    apply RepF.nextE r₁
    exact wm (h2 A s₁ ρ₁ env k₁ f₁) fun _ _ p => p.since st₁)
theorem EvSs.stop {st : Stmt} {rest : List Stmt} {f : AF} (h1 : EvS Z D κ loc σ st f loc₁ σ₁) (hf : f ≠ .next) : EvSs Z D κ loc σ (st :: rest) f loc₁ σ₁ := fun A s ρ env ok fr =>
  wpAny_execs_cons (wm (h1 A s ρ env ok fr) fun fl s₁ ⟨ρ₁, k₁, st₁, f₁, r₁⟩ => by
    cases r₁ with
    | next => exact absurd rfl hf
    | brk => exact ⟨ρ₁, k₁, st₁, f₁, .brk⟩
    | cont => exact ⟨ρ₁, k₁, st₁, f₁, .cont⟩
    | ret r => exact ⟨ρ₁, k₁, st₁, f₁, .ret r⟩)
/-- what need not be known further -/
theorem EvSs.forget {sts : List Stmt} {f : AF} (ext : Loc) (h : EvSs Z D κ loc σ sts f (loc₁ ++ ext) σ') : EvSs Z D κ loc σ sts f loc₁ σ' := fun A s ρ env ok fr =>
  wm (h A s ρ env ok fr) fun fl s' ⟨ρ', k', st', f', r'⟩ => ⟨ρ', k', st', { f' with ns := let ⟨m, n1, n2⟩ := f'.ns; ⟨m, n1, fun x y e => n2 x y (by rw [List.lookup_append, e]; rfl)⟩ }, r'⟩
theorem EvS.assign {t e : Expr} {pos : Pos} {r : SV} (h1 : EvE Z D κ loc σ e r σ₁) (h2 : EvA Z D κ loc σ₁ t r loc₁ σ₂) (hs : ∀ env, swapsWithSole [t] e pos.line env = pure false) (hw : ∀ env, swappedStores [t] e env = pure none)
    (ht : ∀ env, (assignEach [t] env).map (·.2) = [PySem.assign t env]) : EvS Z D κ loc σ (.Assign [t] e pos) .next loc₁ σ₂ := fun A s ρ env ok f =>
  wpAny_Assign_stores (wm (h1 A s ρ env ok f) fun v s₁ ⟨ρ₁, k₁, st₁, r₁⟩ => by
    rw [ht env]
    show wpAny _ A (PySem.assign t env v) _ bot s₁
    exact wm (h2 A s₁ ρ₁ env v k₁ (f.step st₁) r₁) fun _ _ ⟨ρ₂, k₂, st₂, f₂, _⟩ => ⟨ρ₂, k₂, st₁.at.trans st₂, f₂, .next⟩) (hs env) (hw env)

theorem EvS.augName {x : Str} {npos pos : Pos} {op : Operator} {e : Expr} {a b r : SV} (hk : κ.scope.names.lookup x = some .local) (hx : loc.lookup x = some a) (h1 : EvE Z D κ loc σ e b σ₁) (h2 : OpI Z D op a b σ₁ r σ₂) (hu : Upd loc x r loc') :
    EvS Z D κ loc σ (.AugAssign (.Name x npos) op e pos) .next loc' σ₂ := fun A s ρ env ok f => by
  obtain ⟨m, n1, n2⟩ := f.ns
  obtain ⟨v, e1, rv⟩ := ns_get n2 hx
  refine wpAny_AugAssign_Name (wpAny_loadName_local f.kind' ((f.kindOf x).trans hk) n1 e1 ?_)
  exact wm (h1 A s ρ env ok f) fun u s₁ ⟨ρ₁, k₁, st₁, r₁⟩ => wm (h2 A s₁ ρ₁ v u k₁ (rv.mono st₁.mono) r₁) fun y s₂ ⟨ρ₂, k₂, st₂, r₂⟩ =>
    wm (storeLocal k₂ ((f.step st₁).step st₂) hk r₂ hu) fun _ _ ⟨ρ₃, k₃, st₃, f₃, _⟩ => ⟨ρ₃, k₃, (st₁.trans st₂).at.trans st₃, f₃, .next⟩

theorem EvS.expr {e : Expr} {pos : Pos} {r : SV} (h1 : EvE Z D κ loc σ e r σ₁) (hs : ∀ env, swapsWith e none pos.line env = pure false) : EvS Z D κ loc σ (.Expr e pos) .next loc σ₁ := fun A s ρ env ok f =>
  wpAny_Expr_any (wm (h1 A s ρ env ok f) fun _ _ ⟨ρ₁, k₁, st₁, _⟩ => ⟨ρ₁, k₁, st₁.at, f.step st₁, .next⟩) f.inter (hs env)
theorem EvS.ret {e : Expr} {pos : Pos} {r : SV} (h1 : EvE Z D κ loc σ e r σ₁) : EvS Z D κ loc σ (.Return (some e) pos) (.ret r) loc σ₁ := fun A s ρ env ok f =>
  wpAny_Return_some (wm (h1 A s ρ env ok f) fun _ _ ⟨ρ₁, k₁, st₁, r₁⟩ => ⟨ρ₁, k₁, st₁.at, f.step st₁, .ret r₁⟩)
theorem EvS.retNone {pos : Pos} : EvS Z D κ loc σ (.Return none pos) (.ret .none) loc σ := fun A s ρ env ok f =>
  wpAny_Return_none (PostS.of_post f (Post.now0 ok (.ret .none)))
theorem EvS.cont {pos : Pos} : EvS Z D κ loc σ (.Continue pos) .cont loc σ := fun A s ρ env ok f =>
  wpAny_Continue (PostS.of_post f (Post.now0 ok .cont))
theorem EvS.ifT {t : Expr} {b o : List Stmt} {pos : Pos} {f : AF} (h1 : EvT Z D κ loc σ t true σ₁) (h2 : EvSs Z D κ loc σ₁ b f loc₁ σ₂) : EvS Z D κ loc σ (.If t b o pos) f loc₁ σ₂ := fun A s ρ env ok fr =>
  wpAny_If (wm (h1 A s ρ env ok fr) fun c s₁ ⟨ρ₁, k₁, st₁, r₁⟩ => by
    have r₁ : c = true := r₁
    subst r₁
    exact wm (h2 A s₁ ρ₁ env k₁ (fr.step st₁)) fun _ _ p => p.since st₁.at)
theorem EvS.ifF {t : Expr} {b o : List Stmt} {pos : Pos} {f : AF} (h1 : EvT Z D κ loc σ t false σ₁) (h2 : EvSs Z D κ loc σ₁ o f loc₁ σ₂) : EvS Z D κ loc σ (.If t b o pos) f loc₁ σ₂ := fun A s ρ env ok fr =>
  wpAny_If (wm (h1 A s ρ env ok fr) fun c s₁ ⟨ρ₁, k₁, st₁, r₁⟩ => by
    have r₁ : c = false := r₁
    subst r₁
    exact wm (h2 A s₁ ρ₁ env k₁ (fr.step st₁)) fun _ _ p => p.since st₁.at)
end
end Mine

namespace Mine
open PySem PySem.W PyProof.Rows PySem.Calls

theorem lookup_none_of {α : Type} {l : List (Str × α)} {x : Str} (h : x ∉ l.map (·.1)) : l.lookup x = none := by
  induction l with
  | nil => rfl
  | cons p r ih =>
    obtain ⟨y, v⟩ := p
    rw [List.map_cons, List.mem_cons, not_or] at h
    have hb : (x == y) = false := by simpa using h.1
    rw [List.lookup_cons, hb]
    exact ih h.2
theorem lookup_rev {α : Type} {l : List (Str × α)} (h : (l.map (·.1)).Nodup) (x : Str) : l.reverse.lookup x = l.lookup x := by
  induction l with
  | nil => rfl
  | cons p r ih =>
    obtain ⟨y, v⟩ := p
    rw [List.map_cons, List.nodup_cons] at h
    rw [List.reverse_cons, List.lookup_append, ih h.2, List.lookup_cons]
    by_cases q : x = y
    · subst q
      rw [lookup_none_of h.1]
      simp
    · have hb : (x == y) = false := by simpa using q
      have h3 : List.lookup x ((y, v) :: r) = List.lookup x r := by rw [List.lookup_cons, hb]
      rw [hb, h3]
      show (List.lookup x r).or none = _
      cases List.lookup x r <;> rfl

theorem zip_rep {ρ : List Addr} {h : Heap} {names : List Str} {rs : List SV} {vs : List Value} (r : RepVs ρ h rs vs) : NsRep ρ h (names.zip rs) (fun x => (names.zip vs).lookup x) := by
  induction names generalizing rs vs with
  | nil => intro x y e; simp at e
  | cons y names ih =>
    cases rs with
    | nil => intro x y e; simp at e
    | cons a rs =>
      apply RepVs.elim1 r; intro v vs' r1 r2
      intro x u e
      simp only [List.zip_cons_cons, List.lookup_cons] at e ⊢
      cases hb : x == y with
      | true => rw [hb] at e; cases e; exact ⟨v, rfl, r1⟩
      | false => rw [hb] at e; exact ih r2 x u e

section
variable {Z : Zt} {D : Nat} {κ : Ctx} {loc loc' loc₁ loc₂ : Loc} {σ σ' σ₁ σ₂ σ₃ : List SObj}

theorem phi_deeper {A : Around} {env : Env} {outer : List Env} (h : A.frames = some outer) : (A.deeper env).frames = some (env :: outer) := by
  show A.frames.map (env :: ·) = _
  rw [h]; rfl
theorem phi_of {A : Around} {outer : List Env} (h : A.frames = some outer) : phi A = outer.filterMap (·.frame) := by unfold phi; rw [h]; rfl

/-- into a def's body, behind its frame's making -/
theorem Okh.enter {A : Around} {ρ : List Addr} {s s₁ : Shared} {env : Env} (k : Okh Z (D + 1) A ρ σ s) (hk : ∀ b o, s.heap.get? b = some o → s₁.heap.get? b = some o) (rel : RelH Z ρ σ s₁) (hf : env.frame = some env.locals) (hkind : env.scope.kind = .function)
    (hL : s.heap.get? env.locals = none) {o : Obj} {es : Array DictEntry} {n : Nat} (ho : s₁.heap.get? env.locals = some o) (hd : o.data = .dict es n) : Okh Z D (A.deeper env) ρ σ s₁ := by
  obtain ⟨outer, h1, h2⟩ := k.frames
  obtain ⟨f1, f2, f3⟩ := k.rel.fresh hL
  refine ⟨by have := k.depth; show A.depth + 1 + D < _; (first | lia | omega), by have := k.units; show A.units + 3 + 8 * D < _; (first | lia | omega), k.handled, ⟨_, phi_deeper h1, fun e he => ?_⟩, rel⟩
  rcases List.mem_cons.mp he with rfl | he
  · exact ⟨_, hf, by rw [hkind]; decide, f1, f2, f3, o, es, n, ho, hd⟩
  · obtain ⟨L, q1, q2, q3, q4, q5, oL, eL, nL, q6, q7⟩ := h2 e he
    exact ⟨L, q1, q2, q3, q4, q5, oL, eL, nL, hk _ _ q6, q7⟩

noncomputable def retOf : AF → SV
  | .ret r => r
  | _ => .none
noncomputable def flowVal (fl : Flow) : Value := match fl with | .ret v => v | _ => .none
theorem retOf_rep {ρ : List Addr} {h : Heap} {f : AF} {fl : Flow} (r : RepF ρ h f fl) : RepV ρ h (retOf f) (flowVal fl) := by
  cases r with
  | next => exact .none
  | brk => exact .none
  | cont => exact .none
  | ret r => exact r

noncomputable def CallC (Z : Zt) (D : Nat) (f : SV) (args : List SV) (σ : List SObj) (r : SV) (σ' : List SObj) : Prop :=
  ∀ A s ρ v vs, Okh Z D A ρ σ s → RepV ρ s.heap f v → RepVs ρ s.heap args vs → codeAny (model Z.prog Z.w) A (.call v ⟨vs, []⟩) (wants (Post Z D A [] ρ s σ' (isV r)) bot) s
theorem CallC.call {f r : SV} {args : List SV} (h : CallC Z D f args σ r σ') : Call Z D f args σ r σ' := by
  intro A s ρ vs ok rv
  apply RepVs.elim1 rv; intro v us r1 r2
  exact wpAny_call (codeAny_mono (h A s ρ v us ok r1 r2) fun r s' q => by
    cases r with
    | error e => exact q
    | ok fl => cases fl <;> exact q)
/-- back out of a def's body -/
theorem leave_body {A : Around} {s s₀ : Shared} {ρ ρ₀ : List Addr} {env : Env} {f : AF} {fl : Flow} {s' : Shared} (ok : Okh Z (D + 1) A ρ σ s) (st1 : Step A [] ρ s ρ₀ s₀) (hL : s.heap.get? env.locals = none) (hf : env.frame = some env.locals)
    (h : PostS Z D (A.deeper env) κ env ρ₀ s₀ loc' σ' (fun ρ h fl => RepF ρ h f fl) fl s') : Post Z (D + 1) A [] ρ s σ' (isV (retOf f)) (flowVal fl) s' := by
  obtain ⟨ρ', k', st', f', r'⟩ := h
  have hphi : ∀ b, b ∈ phi (A.deeper env) → b ∈ phi A ∨ b = env.locals := fun b hb => by
    obtain ⟨outer, h1, h2⟩ := ok.frames
    rw [phi_of (phi_deeper h1)] at hb
    rw [phi_of h1]
    rcases List.mem_filterMap.mp hb with ⟨e, he, q⟩
    rcases List.mem_cons.mp he with rfl | he
    · right; rw [hf] at q; cases q; rfl
    · left; exact List.mem_filterMap.mpr ⟨e, he, q⟩
  have st : Step A [] ρ s ρ' s' := by
    refine ⟨st1.mono.trans st'.mono st1.live, fun b o e => ?_, fun b o es n e d hb hx => ?_⟩
    · obtain ⟨o', e'⟩ := st1.live b o e
      exact st'.live b o' e'
    · obtain ⟨o', e', d', k⟩ := st1.keepd b o es n e d hb hx
      have hne : b ≠ env.locals := fun c => by rw [c, hL] at e; cases e
      obtain ⟨o'', e'', d'', k2⟩ := st'.keepd b o' es n e' d' (st1.mono.not_mem e hb) (by simpa using hne)
      exact ⟨o'', e'', d'', fun hp => (k2 fun hm => (hphi b hm).elim hp hne).trans (k hp)⟩
  exact ⟨ρ', ok.after st k'.rel, st, retOf_rep r'⟩

theorem call_body (hZ : Z.Ok) {A : Around} {s : Shared} {ρ : List Addr} {a : Addr} {o : Obj} {fd : FuncData} {body : List Stmt} {names : List Str} {rs : List SV} {vs : List Value} {cs : List (Str × Nat)} {f : AF} (ok : Okh Z (D + 1) A ρ σ s)
    (ho : s.heap.get? a = some o) (hd : o.data = .func fd) (hcd : s.heap.CodeRec fd.code fd.qualname) (hbody : fd.body = .stmts body) (hbind : bindArgs fd ⟨vs, []⟩ = pure (names.zip vs)) (rv : RepVs ρ s.heap rs vs) (hnl : names.length = rs.length)
    (hcell : ∀ x ∈ fd.scope.names, x.2 ≠ .cell) (hloc : ∀ n ∈ names, fd.scope.names.lookup n = some .local) (hnd : names.Nodup) (hco : fd.scope.isCoroutine = false) (hgen : fd.scope.isGenerator = false) (hk : fd.scope.kind = .function)
    (hglob : fd.globals = mainGlobals) (hbl : fd.builtins = builtinsNs) (hclo : fd.closure = addrsOf ρ cs) (hcs : ∀ x ∈ cs, x.2 < ρ.length)
    (h : ∀ A s ρ env, names.length ≤ s.toks → Okh Z D A ρ σ s → FrH Z ⟨fd.qualname, fd.scope, fd.code, cs⟩ env ρ (names.zip rs) s → wpAny (model Z.prog Z.w) A (execs body env) (PostS Z D A ⟨fd.qualname, fd.scope, fd.code, cs⟩ env ρ s loc' σ' (fun ρ h fl => RepF ρ h f fl)) bot s) :
    codeAny (model Z.prog Z.w) A (.call (.ref a) ⟨vs, []⟩) (wants (Post Z (D + 1) A [] ρ s σ' (isV (retOf f))) bot) s := by
  have hmap : (names.zip vs).map (·.1) = names := by
    rw [← List.unzip_fst, List.unzip_zip (by rw [hnl, rv.1])]
  have hzl : (names.zip vs).length = names.length := by rw [List.length_zip, ← rv.1, hnl]; (first | lia | omega)
  refine codeAny_call_def (fd := fd) (body := body) (binds := names.zip vs) (by have := ok.depth; (first | lia | omega)) ho hd (hZ.lim.keeps ok.rel.base) hcd hbody (.of_eq hbind) hcell
    (fun x hx => hloc x.1 (by rw [← hmap]; exact List.mem_map_of_mem hx)) (fun h₀ hns hkp => ?_) hco hgen hk
  have hL : s.heap.get? s.heap.objs.size = none := get_size_none _
  obtain ⟨oL, es, ep, e1, e2, _, _⟩ := id hns
  have rel : RelH Z ρ σ { s with heap := h₀, toks := s.toks + (names.zip vs).length } := ok.rel.grow hkp
  obtain ⟨f1, f2, f3⟩ := ok.rel.fresh hL
  have st1 : Step A [] ρ s ρ { s with heap := h₀, toks := s.toks + (names.zip vs).length } := .of_keep hkp
  have fr : FrH Z ⟨fd.qualname, fd.scope, fd.code, cs⟩ (callEnv fd s.heap.objs.size a) ρ (names.zip rs) { s with heap := h₀, toks := s.toks + (names.zip vs).length } :=
    ⟨rfl, hk, hglob, hbl, rfl, rfl, rfl, ⟨hclo, hcs⟩, f1, f2, f3, ⟨_, hns, by
      have := zip_rep (names := names) (rv.mono st1.mono)
      have e : (fun x => (names.zip vs).reverse.lookup x) = fun x => (names.zip vs).lookup x := funext fun x => lookup_rev (by rw [hmap]; exact hnd) x
      rw [e]; exact this⟩⟩
  exact wpAny_mono (h _ _ ρ _ (by show _ ≤ s.toks + (names.zip vs).length; (first | lia | omega)) (ok.enter (env := callEnv fd s.heap.objs.size a) hkp rel rfl hk hL e1 e2) fr) (fun fl s' p => leave_body ok st1 hL rfl p) fun _ _ x => x.elim

/-- a def of the text -/
structure IsFn (Z : Zt) (a : Addr) (fd : FuncData) (body : List Stmt) : Prop where
  obj : ∃ o, Z.H0.get? a = some o ∧ o.data = .func fd
  code : Z.H0.CodeRec fd.code fd.qualname
  body : fd.body = .stmts body
  co : fd.scope.isCoroutine = false
  gen : fd.scope.isGenerator = false
  kind : fd.scope.kind = .function
  glob : fd.globals = mainGlobals
  bltn : fd.builtins = builtinsNs
  clos : fd.closure = []

theorem CallC.fnT (hZ : Z.Ok) {a : Addr} {fd : FuncData} {body : List Stmt} {names : List Str} {rs : List SV} {f : AF} (F : IsFn Z a fd body) (hbind : ∀ vs : List Value, vs.length = rs.length → bindArgs fd ⟨vs, []⟩ = pure (names.zip vs)) (hnl : names.length = rs.length)
    (hcell : ∀ x ∈ fd.scope.names, x.2 ≠ .cell) (hloc : ∀ n ∈ names, fd.scope.names.lookup n = some .local) (hnd : names.Nodup)
    (h : ∀ A s ρ env, names.length ≤ s.toks → Okh Z D A ρ σ s → FrH Z ⟨fd.qualname, fd.scope, fd.code, []⟩ env ρ (names.zip rs) s → wpAny (model Z.prog Z.w) A (execs body env) (PostS Z D A ⟨fd.qualname, fd.scope, fd.code, []⟩ env ρ s loc' σ' (fun ρ h fl => RepF ρ h f fl)) bot s) : CallC Z (D + 1) (.fix (.ref a)) rs σ (retOf f) σ' := by
  intro A s ρ v us ok r1 r2
  apply RepV.elim r1
  obtain ⟨o, e1, e2⟩ := F.obj
  exact call_body hZ ok (ok.rel.base _ _ e1) e2 (F.code.keeps ok.rel.base) F.body (hbind us r2.1.symm) r2 hnl hcell hloc hnd F.co F.gen F.kind F.glob F.bltn (cs := []) (by rw [F.clos]; rfl) (by simp) h
theorem CallC.fn (hZ : Z.Ok) {a : Addr} {fd : FuncData} {body : List Stmt} {names : List Str} {rs : List SV} {f : AF} (F : IsFn Z a fd body) (hbind : ∀ vs : List Value, vs.length = rs.length → bindArgs fd ⟨vs, []⟩ = pure (names.zip vs)) (hnl : names.length = rs.length)
    (hcell : ∀ x ∈ fd.scope.names, x.2 ≠ .cell) (hloc : ∀ n ∈ names, fd.scope.names.lookup n = some .local) (hnd : names.Nodup) (h : EvSs Z D ⟨fd.qualname, fd.scope, fd.code, []⟩ (names.zip rs) σ body f loc' σ') : CallC Z (D + 1) (.fix (.ref a)) rs σ (retOf f) σ' :=
  .fnT hZ F hbind hnl hcell hloc hnd fun A s ρ env _ => h A s ρ env

-- a def with cells of its own
noncomputable def locB (kinds : List (Str × NameKind)) : Loc → Loc → Loc
  | [], loc => loc
  | (n, r) :: rest, loc => locB kinds rest (if kinds.lookup n = some .local then upd loc n r else loc)
noncomputable def cellB (kinds : List (Str × NameKind)) : Loc → (Str → Option SV) → Str → Option SV
  | [], c => c
  | (n, r) :: rest, c => cellB kinds rest (if kinds.lookup n = some .local then c else fun y => if y = n then some r else c y)
theorem bindL_rep {ρ : List Addr} {h : Heap} {kinds : List (Str × NameKind)} : ∀ {names : List Str} {rs : List SV} {vs : List Value} {loc : Loc} {m : Str → Option Value}, RepVs ρ h rs vs → NsRep ρ h loc m →
    NsRep ρ h (locB kinds (names.zip rs) loc) (bindL (fun x => kinds.lookup x) (names.zip vs) m)
  | [], rs, vs, loc, m, r, hn => by simpa [locB, bindL] using hn
  | n :: names, [], vs, loc, m, r, hn => by apply RepVs.elim0 r; simpa [locB, bindL] using hn
  | n :: names, x :: rs, vs, loc, m, r, hn => by
    apply RepVs.elim1 r; intro v us r1 r2
    show NsRep ρ h (locB kinds (names.zip rs) _) (bindL _ (names.zip us) _)
    refine bindL_rep r2 ?_
    by_cases q : kinds.lookup n = some .local
    · simp only [q, if_true]; exact hn.upd r1
    · simp only [q, if_false]; exact hn
theorem bindC_rep {ρ : List Addr} {h : Heap} {kinds : List (Str × NameKind)} : ∀ {names : List Str} {rs : List SV} {vs : List Value} {c : Str → Option SV} {m : Str → Option Value}, RepVs ρ h rs vs → (∀ x, CellRep ρ h (c x) (m x)) →
    ∀ x, CellRep ρ h (cellB kinds (names.zip rs) c x) (bindC (fun x => kinds.lookup x) (names.zip vs) m x)
  | [], rs, vs, c, m, r, hn => by simpa [cellB, bindC] using hn
  | n :: names, [], vs, c, m, r, hn => by apply RepVs.elim0 r; simpa [cellB, bindC] using hn
  | n :: names, x :: rs, vs, c, m, r, hn => by
    apply RepVs.elim1 r; intro v us r1 r2
    show ∀ y, CellRep ρ h (cellB kinds (names.zip rs) _ y) (bindC _ (names.zip us) _ y)
    refine bindC_rep r2 fun y => ?_
    by_cases q : kinds.lookup n = some .local
    · simp only [q, if_true]; exact hn y
    · simp only [q, if_false]
      by_cases hy : y = n
      · simp only [hy, if_true]; exact r1
      · simp only [hy, if_false]; exact hn y
end
end Mine

namespace Mine
open PySem PySem.W PyProof.Rows PySem.Calls

section
variable {Z : Zt} {D : Nat} {κ : Ctx} {loc loc' loc₁ loc₂ loc₃ : Loc} {σ σ' σ₁ σ₂ σ₃ σ₄ : List SObj}

noncomputable abbrev Itr (Z : Zt) (D : Nat) (a : SV) (σ : List SObj) (r : SV) (σ' : List SObj) : Prop := Una Z D a σ pyIter σ' (isV r)
noncomputable abbrev Nxt (Z : Zt) (D : Nat) (it : SV) (σ : List SObj) (x : Option SV) (σ' : List SObj) : Prop := Una Z D it σ pyNext σ' (fun ρ h o => CellRep ρ h x o)

inductive LoopW (Z : Zt) (D : Nat) (κ : Ctx) (test : Expr) (body : List Stmt) : Nat → Loc → List SObj → AF → Loc → List SObj → Prop
  | stop {n : Nat} {loc : Loc} {σ σ' : List SObj} : EvT Z D κ loc σ test false σ' → LoopW Z D κ test body n loc σ .next loc σ'
  | turn {n : Nat} {loc loc₁ loc₂ : Loc} {σ σ₁ σ₂ σ₃ : List SObj} {f g : AF} : EvT Z D κ loc σ test true σ₁ → EvSs Z D κ loc σ₁ body g loc₁ σ₂ → g = .next ∨ g = .cont → LoopW Z D κ test body n loc₁ σ₂ f loc₂ σ₃ → LoopW Z D κ test body (n + 1) loc σ f loc₂ σ₃
  | ret {n : Nat} {loc loc₁ : Loc} {σ σ₁ σ₂ : List SObj} {r : SV} : EvT Z D κ loc σ test true σ₁ → EvSs Z D κ loc σ₁ body (.ret r) loc₁ σ₂ → LoopW Z D κ test body n loc σ (.ret r) loc₁ σ₂

theorem EvS.while {test : Expr} {body : List Stmt} {pos : Pos} {n : Nat} {f : AF} (h : LoopW Z D κ test body n loc σ f loc' σ') : EvS Z D κ loc σ (.While test body [] pos) f loc' σ' := fun A s ρ env ok fr => by
  refine wpAny_While (codeAny_whileLoop (fun k s₁ => ∃ loc₁ σ₁ ρ₁, LoopW Z D κ test body k loc₁ σ₁ f loc' σ' ∧ Okh Z D A ρ₁ σ₁ s₁ ∧ Step A [env.locals] ρ s ρ₁ s₁ ∧ FrH Z κ env ρ₁ loc₁ s₁) ?_ n ⟨loc, σ, ρ, h, ok, .refl _ _ _ _, fr⟩)
  rintro k s₁ ⟨loc₁, σ₁, ρ₁, hl, ok₁, st₁, fr₁⟩
  cases hl with
  | stop ht =>
    refine wpAny_mono (ht A s₁ ρ₁ env ok₁ fr₁) (fun b s₂ ⟨ρ₂, k₂, st₂, r₂⟩ => ?_) fun _ _ x => x.elim
    have r₂ : b = false := r₂
    subst r₂
    exact wpAny_execs_nil ⟨ρ₂, k₂, st₁.trans st₂.at, fr₁.step st₂, .next⟩
  | turn ht hb hg hl =>
    refine wpAny_mono (ht A s₁ ρ₁ env ok₁ fr₁) (fun b s₂ ⟨ρ₂, k₂, st₂, r₂⟩ => ?_) fun _ _ x => x.elim
    have r₂ : b = true := r₂
    subst r₂
    refine wpAny_mono (hb A s₂ ρ₂ env k₂ (fr₁.step st₂)) (fun fl s₃ ⟨ρ₃, k₃, st₃, f₃, r₃⟩ => ?_) fun _ _ x => x.elim
    apply RepF.go r₃ hg <;> exact ⟨_, Nat.lt_succ_self _, _, _, ρ₃, hl, k₃, (st₁.trans st₂.at).trans st₃, f₃⟩
  | ret ht hb =>
    refine wpAny_mono (ht A s₁ ρ₁ env ok₁ fr₁) (fun b s₂ ⟨ρ₂, k₂, st₂, r₂⟩ => ?_) fun _ _ x => x.elim
    have r₂ : b = true := r₂
    subst r₂
    refine wpAny_mono (hb A s₂ ρ₂ env k₂ (fr₁.step st₂)) (fun fl s₃ ⟨ρ₃, k₃, st₃, f₃, r₃⟩ => ?_) fun _ _ x => x.elim
    apply RepF.retE r₃; intro _ rv
    exact ⟨ρ₃, k₃, (st₁.trans st₂.at).trans st₃, f₃, .ret rv⟩

inductive LoopF (Z : Zt) (D : Nat) (κ : Ctx) (target : Expr) (body : List Stmt) (it : SV) : Nat → Loc → List SObj → AF → Loc → List SObj → Prop
  | stop {n : Nat} {loc : Loc} {σ σ' : List SObj} : Nxt Z D it σ none σ' → LoopF Z D κ target body it n loc σ .next loc σ'
  | turn {n : Nat} {loc loc₁ loc₂ loc₃ : Loc} {σ σ₁ σ₂ σ₃ σ₄ : List SObj} {f g : AF} {x : SV} : Nxt Z D it σ (some x) σ₁ → EvA Z D κ loc σ₁ target x loc₁ σ₂ → EvSs Z D κ loc₁ σ₂ body g loc₂ σ₃ → g = .next ∨ g = .cont →
      LoopF Z D κ target body it n loc₂ σ₃ f loc₃ σ₄ → LoopF Z D κ target body it (n + 1) loc σ f loc₃ σ₄
  | ret {n : Nat} {loc loc₁ loc₂ : Loc} {σ σ₁ σ₂ σ₃ : List SObj} {r x : SV} : Nxt Z D it σ (some x) σ₁ → EvA Z D κ loc σ₁ target x loc₁ σ₂ → EvSs Z D κ loc₁ σ₂ body (.ret r) loc₂ σ₃ → LoopF Z D κ target body it n loc σ (.ret r) loc₂ σ₃

theorem EvS.for {target iter : Expr} {body : List Stmt} {pos : Pos} {n : Nat} {f : AF} {v it : SV} (h1 : EvE Z D κ loc σ iter v σ₁) (h2 : Itr Z D v σ₁ it σ₂) (h3 : LoopF Z D κ target body it n loc σ₂ f loc' σ')
    (ht : ∀ it v, letOwnedTupleGo target it v = pure () := by intro _ _; rfl) (hs : ∀ env x, foldedSetIterable iter env x = pure x := by intro _ _; rfl) : EvS Z D κ loc σ (.For target iter body [] pos) f loc' σ' := fun A s ρ env ok fr => by
  refine wpAny_For (wm (h1 A s ρ env ok fr) fun vv s₁ ⟨ρ₁, k₁, st₁, r₁⟩ => wm (h2 A s₁ ρ₁ vv k₁ r₁) fun vi s₂ ⟨ρ₂, k₂, st₂, r₂⟩ => ?_) (hs env)
  refine codeAny_forLoop (fun k s₁ => ∃ loc₁ σ₁ ρ₁, LoopF Z D κ target body it k loc₁ σ₁ f loc' σ' ∧ Okh Z D A ρ₁ σ₁ s₁ ∧ Step A [env.locals] ρ s ρ₁ s₁ ∧ FrH Z κ env ρ₁ loc₁ s₁ ∧ RepV ρ₁ s₁.heap it vi) ?_ n
    ⟨loc, σ₂, ρ₂, h3, k₂, (st₁.trans st₂).at, (fr.step st₁).step st₂, r₂⟩ (ht vi)
  rintro k s₁ ⟨loc₁, σ₁, ρ₁, hl, ok₁, st₁, fr₁, rv₁⟩
  cases hl with
  | stop hn =>
    refine wpAny_mono (hn A s₁ ρ₁ vi ok₁ rv₁) (fun b s₂ ⟨ρ₂, k₂, st₂, r₂⟩ => ?_) fun _ _ x => x.elim
    cases b with
    | some v => exact r₂.elim
    | none => exact wpAny_execs_nil ⟨ρ₂, k₂, st₁.trans st₂.at, fr₁.step st₂, .next⟩
  | turn hn ha hb hg hl =>
    refine wpAny_mono (hn A s₁ ρ₁ vi ok₁ rv₁) (fun b s₂ ⟨ρ₂, k₂, st₂, r₂⟩ => ?_) fun _ _ x => x.elim
    cases b with
    | none => exact r₂.elim
    | some v =>
      refine wpAny_mono (ha A s₂ ρ₂ env v k₂ (fr₁.step st₂) r₂) (fun _ s₃ ⟨ρ₃, k₃, st₃, f₃, _⟩ => ?_) fun _ _ x => x.elim
      refine wpAny_mono (hb A s₃ ρ₃ env k₃ f₃) (fun fl s₄ ⟨ρ₄, k₄, st₄, f₄, r₄⟩ => ?_) fun _ _ x => x.elim
      apply RepF.go r₄ hg <;> exact ⟨_, Nat.lt_succ_self _, _, _, ρ₄, hl, k₄, ((st₁.trans st₂.at).trans st₃).trans st₄, f₄, rv₁.mono ((st₂.mono.trans st₃.mono st₂.live).trans st₄.mono fun a o e => let ⟨o', e'⟩ := st₂.live a o e; st₃.live a o' e')⟩
  | ret hn ha hb =>
    refine wpAny_mono (hn A s₁ ρ₁ vi ok₁ rv₁) (fun b s₂ ⟨ρ₂, k₂, st₂, r₂⟩ => ?_) fun _ _ x => x.elim
    cases b with
    | none => exact r₂.elim
    | some v =>
      refine wpAny_mono (ha A s₂ ρ₂ env v k₂ (fr₁.step st₂) r₂) (fun _ s₃ ⟨ρ₃, k₃, st₃, f₃, _⟩ => ?_) fun _ _ x => x.elim
      refine wpAny_mono (hb A s₃ ρ₃ env k₃ f₃) (fun fl s₄ ⟨ρ₄, k₄, st₄, f₄, r₄⟩ => ?_) fun _ _ x => x.elim
      apply RepF.retE r₄; intro _ rv
      exact ⟨ρ₄, k₄, ((st₁.trans st₂.at).trans st₃).trans st₄, f₄, .ret rv⟩

/-- what was made on the way is let go -/
theorem EvS.drop {st : Stmt} {f : AF} {τ : List SObj} (h : EvS Z D κ loc σ st f loc' (σ' ++ τ)) (hl : σ.length ≤ σ'.length)
    (hs : (∀ (i : Nat) (o : SObj), σ[i]? = some o → SObj.Lt σ.length o) → ∀ (i : Nat) (o : SObj), σ'[i]? = some o → SObj.Lt σ'.length o) (hr : ∀ r, f = .ret r → SV.Lt σ'.length r) (hL : ∀ x v, loc'.lookup x = some v → SV.Lt σ'.length v) : EvS Z D κ loc σ st f loc' σ' := fun A s ρ env ok fr =>
  wm (h A s ρ env ok fr) fun fl s' ⟨ρ', ok', st, f', r⟩ => by
    have rel := ok'.rel.drop (hs ok.rel.scoped)
    obtain ⟨u, e, hu⟩ := st.mono.pre
    have h1 : ρ.length ≤ σ'.length := by rw [ok.rel.len]; exact hl
    have e2 : ρ'.take σ'.length = ρ ++ u.take (σ'.length - ρ.length) := by rw [e, List.take_append, List.take_of_length_le h1]
    have hlen : σ'.length ≤ ρ'.length := by rw [ok'.rel.len]; simp
    have st' : Step A [env.locals] ρ s (ρ'.take σ'.length) s' := ⟨⟨⟨_, e2, fun a ha => hu a (List.mem_of_mem_take ha)⟩, st.mono.keep⟩, st.live, st.keepd⟩
    have hcs : ∀ x ∈ κ.cells, x.2 < σ'.length := fun x hx => Nat.lt_of_lt_of_le (fr.cells.2 x hx) h1
    refine ⟨ρ'.take σ'.length, ⟨ok'.depth, ok'.units, ok'.handled, ?_, rel⟩, st', { f' with cells := ⟨by rw [addrs_take hcs]; exact f'.cells.1, fun x hx => by rw [List.length_take]; have := hcs x hx; (first | lia | omega)⟩, lρ := fun hm => f'.lρ (List.mem_of_mem_take hm), ns := ?_ }, ?_⟩
    · obtain ⟨outer, q1, q2⟩ := ok'.frames
      refine ⟨outer, q1, fun e he => ?_⟩
      obtain ⟨L, p1, p2, p3, p4, p5, p6⟩ := q2 e he
      exact ⟨L, p1, p2, fun hm => p3 (List.mem_of_mem_take hm), p4, p5, p6⟩
    · obtain ⟨m, n1, n2⟩ := f'.ns
      exact ⟨m, n1, fun x y ey => let ⟨v, e1, e2⟩ := n2 x y ey; ⟨v, e1, e2.take (hL x y ey) hlen⟩⟩
    · exact r.map fun x v e rv => rv.take (hr _ e) hlen

-- iterators
theorem pyNext_stop {A : Around} {s : Shared} {it : Value} {T id : String} {b : Builtin} {Q : Option Value → Shared → Prop} (hT : s.TypeIs it T) (hs : Slot T (Str.ofString "__next__") id) (hb : entryFor table id = some b) (ha : argsOk id ⟨[it], []⟩)
    (h : wpAny (model Z.prog Z.w) A.in1 (b ⟨[it], []⟩) (fun _ _ => False) (fun e s' => s'.TypeIs e "StopIteration" ∧ Q none s') s) : wpAny (model Z.prog Z.w) A (pyNext it) Q bot s := by
  unfold pyNext
  refine wpAny_bind (wpAny_attempt (wpAny_callSpecial?_slot (name := Str.ofString "__next__") hT hs (wpAny_call_entry hs hT hb ?_ ha)))
  exact wpAny_mono h (fun _ _ x => x.elim) fun e s' ⟨ht, hq⟩ => wpAny_bind (wpAny_isInstance ht isSubtype_stop (wpAny_pure hq))

theorem stop_raise {α : Type} {A : Around} {s : Shared} {Q : α → Shared → Prop} {E : Value → Shared → Prop} (hh : A.handled = none) (h : ∀ (e : Value) (h' : Heap), (∀ b o, s.heap.get? b = some o → h'.get? b = some o) → ({ s with heap := h' } : Shared).TypeIs e "StopIteration" → E e { s with heap := h' }) :
    wpAny (model Z.prog Z.w) A (newExc (.type "StopIteration") [] >>= fun e => (raiseNew e : Sem α)) Q E s := by
  refine wpAny_bind ?_
  simp only [newExc, newTuple]
  refine wpAny_bind (wpAny_newObj_type ?_ (by size_fits))
  refine wpAny_bind (m := firstArgMember _ _) (wpAny_of_eq (a := Value.none) (by first | rfl | (simp only [firstArgMember]; rfl)) ?_)
  refine wpAny_newObj_type ?_ (by size_fits)
  refine wpAny_raiseNew_none hh (h _ _ (fun b o e => Heap.get?_push_of_some _ (Heap.get?_push_of_some _ e)) ⟨_, Heap.get?_push_size _ rfl, rfl⟩)

theorem tracked_it {o : Obj} {T : String} {v : Value} {i : Int} {t : Tok} (hc : o.cls = .type T) (hT : T ∈ iters) (hd : o.data = .fields #[v, .int i t]) : Tracked o :=
  .inr (.inr (.inr (.inr ⟨_, hd, ⟨T, hT, hc⟩, fun q t h => by simp at h⟩)))
theorem tracked_map {o : Obj} {T : String} {v u : Value} {i : Int} {t : Tok} (hc : o.cls = .type T) (hT : T ∈ iters) (hd : o.data = .fields #[v, .int i t]) : Tracked (Obj.mapFields (·.setIfInBounds 0 u) o) :=
  tracked_it ((Obj.cls_mapFields ..).trans hc) hT (v := u) (i := i) (t := t) (by rw [Obj.data_mapFields hd]; rfl)
/-- an iterator at its end -/
theorem Post.junk {α : Type} {A : Around} {ρ : List Addr} {s : Shared} {h₁ h' : Heap} {R : List Addr → Heap → α → Prop} {x : α} {a : Addr} {i : Nat} {o : Obj} {ob : SObj} (k : Okh Z D A ρ σ s) (t : Nat) (ha : ρ[i]? = some a) (g : Heap.ExtBut a s.heap h₁) (e : h₁.get? a = some o)
    (g' : ∀ b o, h₁.get? b = some o → h'.get? b = some o) (ho : h'.get? a = some o → RepO ρ h' ob a) (r : ∀ ρ h, R ρ h x) : Post Z D A [] ρ s (σ.set i ob) R x { s with heap := h', toks := t } :=
  Post.set k t ha (fun b o hb q => g' b o (g b o hb q)) ⟨o, g' _ _ e⟩ (fun _ => ho (g' _ _ e)) fun _ => r _ _

theorem Itr.list {i : Nat} {xs : List SV} (e : σ[i]? = some (.list xs)) : Itr Z D (.obj i) σ (.obj σ.length) (σ ++ [.listIt i 0]) := by
  intro A s ρ v ok r1
  apply RelH.listE ok.rel e r1; intro a vs n ha hl hr
  exact wpAny_pyIter_list (isList_of hl) (Post.push (o := .listIt i 0) ok _ (get_size_none _) (fun b o q => Heap.get?_push_of_some _ q) (fun M => .listIt (Heap.get?_push_size _ rfl) rfl rfl (M.idx ha)) fun q M => .obj q)

theorem Nxt.list {i j k : Nat} {xs : List SV} {x : SV} (e : σ[i]? = some (.list xs)) (e2 : σ[j]? = some (.listIt i k)) (hx : xs[k]? = some x) : Nxt Z D (.obj j) σ (some x) (σ.set j (.listIt i (k + 1))) := by
  intro A s ρ v ok r1
  apply ok.rel.atE e2 r1; intro a ha b o h1 h2 h3 h4
  obtain ⟨vs, n, hl, hr⟩ := ok.rel.listRef e h4
  obtain ⟨y, hy, ry⟩ := hr.get hx
  refine wpAny_pyNext_list_item ⟨o, h1, h2, h3⟩ (isList_of hl) (x := y) (by simpa using hy) fun h' hit hs => ?_
  obtain ⟨o', q1, q2, q3⟩ := hit
  exact Post.set ok _ ha hs.extBut ⟨o', q1⟩ (fun M => .listIt q1 q2 q3 h4) fun M => (show CellRep _ _ (some x) (some y) from ry.mono M)

theorem Nxt.listEnd {i j k : Nat} {xs : List SV} (e : σ[i]? = some (.list xs)) (e2 : σ[j]? = some (.listIt i k)) (hx : xs[k]? = none) : Nxt Z D (.obj j) σ none (σ.set j .junk) := by
  intro A s ρ v ok r1
  apply ok.rel.atE e2 r1; intro a ha b o h1 h2 h3 h4
  obtain ⟨vs, n, hl, hr⟩ := ok.rel.listRef e h4
  have hy : vs.toArray[k]? = none := by
    have := hr.1
    rw [List.getElem?_eq_none_iff] at hx
    simp; (first | lia | omega)
  refine pyNext_stop (Heap.IsListIter.typeIs ⟨o, h1, h2, h3⟩) slot_listiter_next entry_listiter_next (args_listiter_next _) ?_
  show wpAny _ _ (field (.ref a) 0 >>= _) _ _ s
  refine wpAny_bind (wpAny_field h1 h3 (x := .ref b) rfl ?_)
  show wpAny _ _ (if (Value.ref b == Value.none) = true then _ else _) _ _ s
  rw [if_neg (show ¬ ((Value.ref b == Value.none) = true) from Bool.false_ne_true)]
  show wpAny _ _ (field (.ref a) 1 >>= _) _ _ s
  refine wpAny_bind (wpAny_field h1 h3 (x := .int k 0) rfl ?_)
  show wpAny _ _ (seqItems? (.ref b) >>= _) _ _ s
  refine wpAny_bind (wpAny_seqItems hl rfl ?_)
  simp only [Int.toNat_natCast, hy]
  refine wpAny_bind (wpAny_rule (wpAny_bind (wpAny_setField h1 h3 (by simp) ?_)))
  refine stop_raise ok.handled fun e' h' g ht => ⟨ht, ?_⟩
  exact Post.junk ok _ ha (Heap.SameBut.update ..).extBut (Heap.get?_update_self _ h1 (Obj.isFreed_of_fields (Obj.data_mapFields h3 _))) g (fun q => .junk q (tracked_map h2 (by decide) h3)) fun _ _ => trivial

theorem Nxt.rev {i j k : Nat} {xs : List SV} {x : SV} (e : σ[i]? = some (.list xs)) (e2 : σ[j]? = some (.revIt i k)) (hx : xs[k]? = some x) : Nxt Z D (.obj j) σ (some x) (σ.set j (.revIt i (k - 1))) := by
  intro A s ρ v ok r1
  apply ok.rel.atE e2 r1; intro a ha b o h1 h2 h3 h4
  obtain ⟨vs, n, hl, hr⟩ := ok.rel.listRef e h4
  obtain ⟨y, hy, ry⟩ := hr.get hx
  refine wpAny_pyNext_rev_item ⟨o, h1, h2, h3⟩ (isList_of hl) (x := y) (by simpa using hy) fun h' hit hs => ?_
  obtain ⟨o', q1, q2, q3⟩ := hit
  exact Post.set ok _ ha hs.extBut ⟨o', q1⟩ (fun M => .revIt q1 q2 q3 h4) fun M => (show CellRep _ _ (some x) (some y) from ry.mono M)
theorem Nxt.revEnd {i j : Nat} (e2 : σ[j]? = some (.revIt i (-1))) : Nxt Z D (.obj j) σ none (σ.set j .junk) := by
  intro A s ρ v ok r1
  apply ok.rel.atE e2 r1; intro a ha b o h1 h2 h3 h4
  refine pyNext_stop (Heap.IsRevIter.typeIs ⟨o, h1, h2, h3⟩) F.slot_lri_next F.entry_lri_next (F.args_lri_next_1 _) ?_
  show wpAny _ _ (field (.ref a) 1 >>= _) _ _ s
  refine wpAny_bind (wpAny_field h1 h3 (x := rawInt (-1)) rfl ?_)
  show wpAny _ _ (if (-1 : Int) < 0 then _ else _) _ _ s
  rw [if_pos (by decide)]
  refine wpAny_bind (wpAny_rule ?_)
  refine wpAny_bind ?_
  refine stop_raise ok.handled fun e' h' g ht => ⟨ht, ?_⟩
  exact Post.junk ok _ ha (Heap.ExtBut.refl _ _) h1 g (fun q => .junk q (tracked_it h2 (by decide) h3)) fun _ _ => trivial
theorem Call.reversed {i : Nat} {xs : List SV} (e : σ[i]? = some (.list xs)) : Call Z D (.fix (.type "reversed")) [.obj i] σ (.obj σ.length) (σ ++ [.revIt i ((xs.length : Int) - 1)]) := by
  intro A s ρ vs ok rv
  apply RepVs.elim1 rv; intro f us r1 r2
  apply RepVs.elim1 r2; intro v us r3 r4
  apply RepVs.elim0 r4
  apply RepV.elim r1
  apply RelH.listE ok.rel e r3; intro a vs n ha hl hr
  refine call_reversed_list (isList_of hl) (Post.push (o := .revIt i ((xs.length : Int) - 1)) ok _ (get_size_none _) (fun b o q => Heap.get?_push_of_some _ q) (fun M => .revIt (Heap.get?_push_size _ rfl) rfl ?_ (M.idx ha)) fun q M => .obj q)
  simp [revObj, hr.1]
theorem Itr.rev {i j : Nat} {k : Int} (e2 : σ[j]? = some (.revIt i k)) : Itr Z D (.obj j) σ (.obj j) σ := by
  intro A s ρ v ok r1
  apply ok.rel.atE e2 r1; intro a ha b o h1 h2 h3 h4
  exact wpAny_pyIter_revIter ⟨o, h1, h2, h3⟩ (Post.now0 ok (.obj ha))

-- range
theorem Nxt.range {j : Nat} {x left : Int} (e2 : σ[j]? = some (.rangeIt x left)) (hx : 0 < left) : Nxt Z D (.obj j) σ (some (.int x)) (σ.set j (.rangeIt (x + 1) (left - 1))) := by
  intro A s ρ v ok r1
  apply ok.rel.atE e2 r1; intro a ha h1
  exact wpAny_pyNext_range_item h1 hx fun h' hit hs => Post.set ok _ ha hs.extBut ⟨_, hit⟩ (fun M => .rangeIt hit) fun M => (show CellRep _ _ (some (.int x)) (some _) from .int x _)
theorem Nxt.rangeEnd {j : Nat} {x left : Int} (e2 : σ[j]? = some (.rangeIt x left)) (hx : left ≤ 0) : Nxt Z D (.obj j) σ none (σ.set j .junk) := by
  intro A s ρ v ok r1
  apply ok.rel.atE e2 r1; intro a ha h1
  refine pyNext_stop ⟨_, h1, rfl⟩ F.slot_range_iterator_next F.entry_range_iterator_next (F.args_range_iterator_next_1 _) ?_
  show wpAny _ _ (field (.ref a) 0 >>= _) _ _ s
  refine wpAny_bind (wpAny_field h1 rfl (x := rawInt x) rfl ?_)
  show wpAny _ _ (field (.ref a) 1 >>= _) _ _ s
  refine wpAny_bind (wpAny_field h1 rfl (x := rawInt left) rfl ?_)
  show wpAny _ _ (field (.ref a) 2 >>= _) _ _ s
  refine wpAny_bind (wpAny_field h1 rfl (x := rawInt 1) rfl ?_)
  show wpAny _ _ (if left ≤ 0 then _ else _) _ _ s
  rw [if_pos hx]
  refine wpAny_bind (wpAny_rule ?_)
  refine wpAny_bind ?_
  refine stop_raise ok.handled fun e' h' g ht => ⟨ht, ?_⟩
  exact Post.junk ok _ ha (Heap.ExtBut.refl _ _) h1 g (fun q => .junk q (.inr (.inr (.inr (.inr ⟨_, rfl, ⟨_, by decide, rfl⟩, fun q t h => by simp [rawInt] at h⟩))))) fun _ _ => trivial

-- str
theorem Itr.str {x : Str} (ha : x.cps.all (· < 128) = true) : Itr Z D (.str x) σ (.obj σ.length) (σ ++ [.strIt x 0]) := by
  intro A s ρ v ok r1
  apply RepV.elim r1; intro _
  exact wpAny_pyIter_ascii ha (Post.push (o := .strIt x 0) ok _ (get_size_none _) (fun b o q => Heap.get?_push_of_some _ q) (fun M => .strIt (Heap.get?_push_size _ rfl) rfl rfl) fun q M => .obj q)
theorem Nxt.str {j i c : Nat} {x : Str} (e2 : σ[j]? = some (.strIt x i)) (hx : x.cps[i]? = some c) : Nxt Z D (.obj j) σ (some (.str ⟨#[c]⟩)) (σ.set j (.strIt x (i + 1))) := by
  intro A s ρ v ok r1
  apply ok.rel.atE e2 r1; intro a ha tk o h1 h2 h3
  refine wpAny_pyNext_ascii_item ⟨o, h1, h2, h3⟩ hx fun h' hit hs => ?_
  obtain ⟨o', q1, q2, q3⟩ := hit
  exact Post.set ok _ ha hs.extBut ⟨_, q1⟩ (fun M => .strIt q1 q2 q3) fun M => (show CellRep _ _ (some (.str ⟨#[c]⟩)) (some _) from .str _ _)
theorem Nxt.strEnd {j i : Nat} {x : Str} (e2 : σ[j]? = some (.strIt x i)) (hx : x.cps[i]? = none) : Nxt Z D (.obj j) σ none (σ.set j .junk) := by
  intro A s ρ v ok r1
  apply ok.rel.atE e2 r1; intro a ha tk o h1 h2 h3
  refine pyNext_stop (T := "str_ascii_iterator") ⟨o, h1, h2⟩ F.slot_str_ascii_iterator_next F.entry_str_ascii_iterator_next (F.args_str_ascii_iterator_next_1 _) ?_
  show wpAny _ _ (field (.ref a) 0 >>= _) _ _ s
  refine wpAny_bind (wpAny_field h1 h3 (x := .str x tk) rfl ?_)
  show wpAny _ _ (if (Value.str x tk == Value.none) = true then _ else _) _ _ s
  rw [if_neg (show ¬ ((Value.str x tk == Value.none) = true) from Bool.false_ne_true)]
  refine wpAny_bind (m := asStr? _) (wpAny_of_eq (a := some x) (by first | rfl | simp [asStr?]) ?_)
  show wpAny _ _ (field (.ref a) 1 >>= _) _ _ s
  refine wpAny_bind (wpAny_field h1 h3 (x := .int i 0) rfl ?_)
  simp only [Int.toNat_natCast, hx]
  refine wpAny_bind (wpAny_rule (wpAny_bind (wpAny_setField h1 h3 (by simp) (wpAny_bind (wpAny_letGo ?_)))))
  refine stop_raise ok.handled fun e' h' g ht => ⟨ht, ?_⟩
  exact Post.junk ok _ ha (Heap.SameBut.update ..).extBut (Heap.get?_update_self _ h1 (Obj.isFreed_of_fields (Obj.data_mapFields h3 _))) g (fun q => .junk q (tracked_map h2 (by decide) h3)) fun _ _ => trivial
end
end Mine

namespace Mine
open PySem PySem.W PyProof.Rows PySem.Calls

section
variable {Z : Zt} {D : Nat} {κ : Ctx} {loc loc' loc₁ loc₂ loc₃ : Loc} {σ σ' σ₁ σ₂ σ₃ σ₄ : List SObj}

theorem Call.zero {f : Value} {r : SV} (h : ∀ A s ρ, Okh Z D A ρ σ s → wpAny (model Z.prog Z.w) A (call f []) (Post Z D A [] ρ s σ' (isV r)) bot s) : Call Z D (.fix f) [] σ r σ' := by
  intro A s ρ vs ok rv
  apply RepVs.elim1 rv; intro g us r1 r2
  apply RepVs.elim0 r2
  apply RepV.elim r1
  exact h A s ρ ok
theorem Call.one {f : Value} {a r : SV} (h : Una Z D a σ (fun v => call f [v]) σ' (isV r)) : Call Z D (.fix f) [a] σ r σ' := by
  intro A s ρ vs ok rv
  apply RepVs.elim1 rv; intro g us r1 r2
  apply RepVs.elim1 r2; intro v us r3 r4
  apply RepVs.elim0 r4
  apply RepV.elim r1
  exact h A s ρ v ok r3
theorem Call.two {f : Value} {a b r : SV} (h : Bin Z D a b σ (fun v u => call f [v, u]) σ' (isV r)) : Call Z D (.fix f) [a, b] σ r σ' := by
  intro A s ρ vs ok rv
  apply RepVs.elim1 rv; intro g us r1 r2
  apply RepVs.elim1 r2; intro v us r3 r4
  apply RepVs.elim1 r4; intro u us r5 r6
  apply RepVs.elim0 r6
  apply RepV.elim r1
  exact h A s ρ v u ok r3 r5
-- tuples
theorem RepV.newTuple {ρ : List Addr} {s : Shared} {xs : List SV} {vs : List Value} {n : Nat} (r : RelH Z ρ σ s) (rv : RepVs ρ s.heap xs vs) : RepV ρ (s.heap.push ⟨.type "tuple", Option.none, .seq vs.toArray n, #[]⟩) (.tup xs) (.ref s.heap.objs.size) := by
  have m : Mono ρ s.heap ρ (s.heap.push ⟨.type "tuple", Option.none, .seq vs.toArray n, #[]⟩) := .of_keep fun b o e => Heap.get?_push_of_some _ e
  exact .tup (Heap.get?_push_size _ rfl) rv.1 (rv.mono m).2

theorem Call.lenList {i : Nat} {xs : List SV} (e : σ[i]? = some (.list xs)) (h : (xs.length : Int) < 2 ^ 63) : Call Z D (.fix (.builtin "len")) [.obj i] σ (.int xs.length) σ := .one fun A s ρ v ok r1 => by
  apply RelH.listE ok.rel e r1; intro a vs n ha hl hr
  have := hr.1
  refine call_len_list (isList_of hl) (by simpa [← this] using h) (Post.now ok _ ?_)
  simp [this]
  exact .int _ _
theorem Call.lenStr {x : Str} (h : (x.length : Int) < 2 ^ 63) : Call Z D (.fix (.builtin "len")) [.str x] σ (.int x.length) σ := .one fun A s ρ v ok r1 => by
  apply RepV.elim r1; intro _
  exact PyProof.Rows.len_str (by (first | lia | omega)) (Post.now ok _ (.int _ _))
theorem Call.abs {a : Int} : Call Z D (.fix (.builtin "abs")) [.int a] σ (.int a.natAbs) σ := .one fun A s ρ v ok r1 => by
  apply RepV.elim r1; intro _
  refine call_abs_int fun u tk => Post.now ok _ ?_
  have : (if a < 0 then -a else a) = a.natAbs := by split <;> (first | lia | omega)
  rw [this]
  exact .int _ _
theorem Call.range {n : Int} : Call Z D (.fix (.type "range")) [.int n] σ (.rng n) σ := .one fun A s ρ v ok r1 => by
  apply RepV.elim r1; intro _
  exact call_range_1 (Post.grow ok _ (fun b o q => Heap.get?_push_of_some _ q) (.rng (Heap.get?_push_size _ rfl)))
theorem rangeSize_01 {n : Int} : Builtin.Range.rangeSize 0 n 1 = max n 0 := by
  unfold Builtin.Range.rangeSize
  simp
  (first | lia | omega)
theorem Itr.range {n : Int} (h0 : 0 ≤ n) (h1 : n < 2 ^ 31) : Itr Z D (.rng n) σ (.obj σ.length) (σ ++ [.rangeIt 0 n]) := by
  intro A s ρ v ok r1
  apply RepV.elim r1; intro _ _ _ _ e
  · have hs : Builtin.Range.rangeSize 0 n 1 = n := by rw [rangeSize_01]; (first | lia | omega)
    refine wpAny_pyIter_range e ?_ ?_
    · unfold Builtin.Range.small
      rw [hs]
      unfold Builtin.Range.rangeFitsLong
      simp
      (first | lia | omega)
    · rw [hs]
      exact Post.push (o := .rangeIt 0 n) ok _ (get_size_none _) (fun b o q => Heap.get?_push_of_some _ q) (fun M => .rangeIt (Heap.get?_push_size _ rfl)) fun q M => .obj q
theorem Call.listOf {i : Nat} {xs : List SV} (e : σ[i]? = some (.list xs)) (h : xs.length ≤ sizeLine) : Call Z D (.fix (.type "list")) [.obj i] σ (.obj σ.length) (σ ++ [.list xs]) := .one fun A s ρ v ok r1 => by
  apply RelH.listE ok.rel e r1; intro a vs n ha hl hr
  refine call_list_seq a (T := "list") (.inl rfl) hl rfl rfl (fun h' c' g e' => ?_) (by simp [← hr.1]; exact h)
  exact Post.push (o := .list xs) ok _ (get_size_none _) (fun b o q => g b o q) (fun M => .list e' (hr.mono M)) fun q M => .obj q
theorem Call.intText {x : Str} {n : Int} (hn : PySem.intText? x = some n) (hl : x.length ≤ 640) : Call Z D (.fix (.type "int")) [.str x] σ (.int n) σ := .one fun A s ρ v ok r1 => by
  apply RepV.elim r1; intro _
  exact KIN.call_text hn hl (Post.now ok _ (.int _ _))
theorem Call.strInt {a : Int} (h : Sz a) : Call Z D (.fix (.type "str")) [.int a] σ (.str (toString a)) σ := .one fun A s ρ v ok r1 => by
  apply RepV.elim r1; intro _
  exact P.str_of_int (by have := h.log2; (first | lia | omega)) (Post.now ok _ (.str _ _))
theorem Call.strBool {b : Bool} : Call Z D (.fix (.type "str")) [.bool b] σ (.str (if b then "True" else "False")) σ := .one fun A s ρ v ok r1 => by
  apply RepV.elim r1
  exact P.str_of_bool (Post.now ok _ (.str _ _))
theorem Call.divmod {a b : Int} (h0 : b ≠ 0) (hb : Sz b) : Call Z D (.fix (.builtin "divmod")) [.int a, .int b] σ (.tup [.int (a.fdiv b), .int (a.fmod b)]) σ := .two fun A s ρ v u ok r1 r2 => by
  apply RepV.elim r1; intro _; apply RepV.elim r2; intro _
  refine divmod_int h0 ?_ (.inl hb.div)
  exact Post.grow ok _ (fun b o q => Heap.get?_push_of_some _ q) (RepV.newTuple ok.rel (.cons (.int _ _) (.cons (.int _ _) .nil)))
theorem Call.bitLength {a : Int} : Call Z D (.fix (.builtin "int.bit_length")) [.int a] σ (.int (Builtin.Int.intBits a)) σ := .one fun A s ρ v ok r1 => by
  apply RepV.elim r1; intro _
  exact PyProof.Rows.call_int_bit_length (Post.now ok _ (.int _ _))

-- methods
noncomputable abbrev Meth (Z : Zt) (D : Nat) (a : SV) (name : Str) (σ : List SObj) (f : SV) (first : List SV) (σ' : List SObj) : Prop :=
  ∀ pl, Una Z D a σ (fun v => getMethod v name pl) σ' (fun ρ h (fx : Value × List Value) => RepV ρ h f fx.1 ∧ RepVs ρ h first fx.2)

theorem EvE.method (hZ : Z.Ok) {o : Expr} {name : Str} {apos pos : Pos} {es : List Expr} {a f r : SV} {first rs : List SV} (h1 : EvE Z D κ loc σ o a σ₁) (h2 : Meth Z D a name σ₁ f first σ₂) (h3 : EvL Z D κ loc σ₂ es rs σ₃) (hk : KeepSV Z f) (h4 : Call Z D f (first ++ rs) σ₃ r σ₄)
    (he : ∀ env, (starEach es env).all (fun x => !x.1) = true) (hm : ∀ env, ∃ pl : Sem Bool, eval (.Call (.Attribute o name apos) es [] pos) env = (do
      let ov ← eval o env
      standAt apos.atName
      let (f, first) ← holding [ov] (getMethod ov name pl)
      callWith pos f first (backTo pos (starEach es env)) [])) : EvE Z D κ loc σ (.Call (.Attribute o name apos) es [] pos) r σ₄ := fun A s ρ env ok fr => by
  obtain ⟨pl, hm⟩ := hm env
  refine MethodCall_ (pl := pl) (wm (h1 A s ρ env ok fr) fun v s₁ ⟨ρ₁, k₁, st₁, r₁⟩ => wm (h2 pl A s₁ ρ₁ v k₁ r₁) fun fx s₂ ⟨ρ₂, k₂, st₂, rf, rx⟩ => callWith_gen (he env) (wm (h3 A s₂ ρ₂ env pos k₂ ((fr.step st₁).step st₂)) fun vs s₃ ⟨ρ₃, k₃, st₃, r₃⟩ =>
    ⟨keepAt_of hZ k₃.rel hk (rf.mono st₃.mono), wm (h4 A s₃ ρ₃ (fx.1 :: (fx.2 ++ vs)) k₃ (.cons (rf.mono st₃.mono) ((rx.mono st₃.mono).append r₃))) fun _ _ p => p.since ((st₁.trans st₂).trans st₃)⟩)) hm

theorem Meth.builtin {a : SV} {T : String} {name : Str} {id : String} (hT : ∀ (s : Shared) ρ v, RelH Z ρ σ s → RepV ρ s.heap a v → s.TypeIs v T ∧ ∀ b, v = .ref b → ∃ o, s.heap.get? b = some o ∧ o.dict = none) (pa : PlainAttrs T) (slot : Slot T name id) (hty : typeOf (.builtin id) = pure (.type "method_descriptor")) :
    Meth Z D a name σ (.fix (.builtin id)) [a] σ := fun _ _ s ρ v ok r1 =>
  getMethod_builtin (hT s ρ v ok.rel r1).1 pa slot hty (hT s ρ v ok.rel r1).2 (Post.now0 ok ⟨.fix _, .cons r1 .nil⟩)
theorem Meth.int {k : Int} {name : Str} {id : String} (pa : PlainAttrs "int") (slot : Slot "int" name id) (hty : typeOf (.builtin id) = pure (.type "method_descriptor")) : Meth Z D (.int k) name σ (.fix (.builtin id)) [.int k] σ :=
  .builtin (fun s ρ v _ r => by apply RepV.elim r; intro _; exact ⟨typeIs_int _ _ _, by intro b hb; cases hb⟩) pa slot hty
theorem Meth.str {x : Str} {name : Str} {id : String} (pa : PlainAttrs "str") (slot : Slot "str" name id) (hty : typeOf (.builtin id) = pure (.type "method_descriptor")) : Meth Z D (.str x) name σ (.fix (.builtin id)) [.str x] σ :=
  .builtin (fun s ρ v _ r => by apply RepV.elim r; intro _; exact ⟨typeIs_str _ _ _, by intro b hb; cases hb⟩) pa slot hty
theorem Meth.list {i : Nat} {xs : List SV} {name : Str} {id : String} (e : σ[i]? = some (.list xs)) (pa : PlainAttrs "list") (slot : Slot "list" name id) (hty : typeOf (.builtin id) = pure (.type "method_descriptor")) : Meth Z D (.obj i) name σ (.fix (.builtin id)) [.obj i] σ :=
  .builtin (fun s ρ v rel r => by
    apply RelH.listE rel e r; intro a vs n ha hl hr
    exact ⟨⟨_, hl, rfl⟩, by intro b hb; cases hb; exact ⟨_, hl, rfl⟩⟩) pa slot hty
end
end Mine

namespace Mine
open PySem PySem.W PyProof.Rows PySem.Calls

section
variable {Z : Zt} {D : Nat} {κ : Ctx} {loc loc' loc₁ loc₂ loc₃ : Loc} {σ σ' σ₁ σ₂ σ₃ σ₄ : List SObj}

/-- of which builtin type a value is -/
noncomputable def TyIs (Z : Zt) (σ : List SObj) (a : SV) (T : String) : Prop := ∀ (s : Shared) (ρ : List Addr) (v : Value), RelH Z ρ σ s → RepV ρ s.heap a v → s.TypeIs v T
theorem TyIs.str {x : Str} : TyIs Z σ (.str x) "str" := fun s ρ v _ r => by apply RepV.elim r; intro _; exact typeIs_str _ _ _
theorem TyIs.tup {xs : List SV} : TyIs Z σ (.tup xs) "tuple" := fun s ρ v _ r => by apply RepV.elim r; intro _ _ _ e _ _; exact ⟨_, e, rfl⟩
theorem TyIs.list {i : Nat} {xs : List SV} (e : σ[i]? = some (.list xs)) : TyIs Z σ (.obj i) "list" := fun s ρ v rel r => by
  apply RelH.listE rel e r; intro a vs n ha hl hr
  exact ⟨_, hl, rfl⟩

theorem EvE.sub {value slice : Expr} {pos : Pos} {a b r : SV} {T id : String} (h1 : EvE Z D κ loc σ value a σ₁) (h2 : EvE Z D κ loc σ₁ slice b σ₂) (h3 : GetI Z D a b σ₂ r σ₃) (hT : TyIs Z σ₂ a T) (hl : typeLookup (.type T) "__getitem__" = pure (some (.builtin id)))
    (hs : ∀ o i, ∃ vs, subscripted slice false o i = operate vs (getItem o i)) : EvE Z D κ loc σ (.Subscript value slice pos) r σ₃ := fun A s ρ env ok fr => by
  rw [arm_eval_Subscript]
  refine wpAny_bind (wm (h1 A s ρ env ok fr) fun o s₁ ⟨ρ₁, k₁, st₁, r₁⟩ => wpAny_bind (wpAny_holding (wm (h2 A s₁ ρ₁ env k₁ (fr.step st₁)) fun i s₂ ⟨ρ₂, k₂, st₂, r₂⟩ => wpAny_bind (wpAny_standAt ?_))))
  have hty := hT s₂ ρ₂ o k₂.rel (r₁.mono st₂.mono)
  refine wpAny_bind ?_
  rw [getitemInPython_of_ne hty.not_modules]
  refine wpAny_bind (wpAny_specialOf hty hl (wpAny_pure ?_))
  refine wpAny_bind ?_
  obtain ⟨vs, e⟩ := hs o i
  rw [e]
  exact wpAny_operating (wm (h3 A s₂ ρ₂ o i k₂ (r₁.mono st₂.mono) r₂) fun r s₃ p => wpAny_bind (wpAny_letTemporaryGo (wpAny_pure (p.since (st₁.trans st₂)))))
-- slices
inductive EvP (Z : Zt) (D : Nat) (κ : Ctx) (loc : Loc) (σ : List SObj) : Option Expr → Option Int → Prop
  | none : EvP Z D κ loc σ none none
  | some {e : Expr} {i : Int} : EvE Z D κ loc σ e (.int i) σ → EvP Z D κ loc σ (some e) (some i)
theorem EvP.go {A : Around} {s : Shared} {ρ : List Addr} {env : Env} {p : Option Expr} {k : Option Int} (h : EvP Z D κ loc σ p k) (ok : Okh Z D A ρ σ s) (fr : FrH Z κ env ρ loc s) : wpAny (model Z.prog Z.w) A (evalPart p env) (Post Z D A [] ρ s σ (fun _ _ v => IsPart v k)) bot s := by
  cases h with
  | none => exact wpAny_pure (Post.now0 ok .none)
  | some h => exact wm (h A s ρ env ok fr) fun v s₁ ⟨ρ₁, k₁, st₁, r₁⟩ => ⟨ρ₁, k₁, st₁, by apply RepV.elim r₁; intro _; exact .int _ _⟩
theorem EvE.slice {lo hi st : Option Expr} {l h k : Option Int} {pos : Pos} (h1 : EvP Z D κ loc σ lo l) (h2 : EvP Z D κ loc σ hi h) (h3 : EvP Z D κ loc σ st k) : EvE Z D κ loc σ (.Slice lo hi st pos) (.slice l h k) σ := fun A s ρ env ok fr =>
  wpAny_Slice (wm (h1.go ok fr) fun vl s₁ ⟨ρ₁, k₁, st₁, r₁⟩ => wm (h2.go k₁ (fr.step st₁)) fun vu s₂ ⟨ρ₂, k₂, st₂, r₂⟩ => wm (h3.go k₂ ((fr.step st₁).step st₂)) fun vs s₃ ⟨ρ₃, k₃, st₃, r₃⟩ =>
    Post.since ((st₁.trans st₂).trans st₃) (Post.grow k₃ _ (fun b o q => Heap.get?_push_of_some _ q) (.slice (Heap.get?_push_size _ rfl) r₁ r₂ r₃)))

/-- a piece of a list -/
noncomputable def pickL {α : Type} (xs : List α) (lo hi st : Option Int) : List α :=
  (sliceRange (sliceBounds lo hi st xs.length).1 (sliceBounds lo hi st xs.length).2.1 (sliceBounds lo hi st xs.length).2.2).filterMap fun i => xs[i]?
theorem RepVs.pick {ρ : List Addr} {h : Heap} {xs : List SV} {vs : List Value} (r : RepVs ρ h xs vs) : ∀ is : List Nat, RepVs ρ h (is.filterMap fun i => xs[i]?) (is.filterMap fun i => vs[i]?)
  | [] => .nil
  | i :: is => by
    have ih := r.pick is
    cases e : xs[i]? with
    | none =>
      have e' : vs[i]? = none := by rw [List.getElem?_eq_none_iff] at e ⊢; rw [← r.1]; exact e
      simp only [List.filterMap_cons, e, e']
      exact ih
    | some x =>
      obtain ⟨v, e', rv⟩ := r.get e
      simp only [List.filterMap_cons, e, e']
      exact .cons rv ih
theorem GetI.listSlice {i : Nat} {xs : List SV} {lo hi st : Option Int} (e : σ[i]? = some (.list xs)) (h : xs.length ≤ sizeLine) (h0 : st ≠ some 0) : GetI Z D (.obj i) (.slice lo hi st) σ (.obj σ.length) (σ ++ [.list (pickL xs lo hi st)]) := by
  intro A s ρ v u ok r1 r2
  apply RelH.listE ok.rel e r1; intro a vs n ha hl hr
  apply RepV.elim r2; intro _ _ _ _ e2 p1 p2 p3
  · refine wpAny_getItem_list_slice (isList_of hl) ⟨_, e2, rfl, rfl⟩ p1 p2 p3 h0 ?_ (by simp [← hr.1]; exact h)
    refine Post.push (o := .list (pickL xs lo hi st)) ok _ (get_size_none _) (fun b o q => Heap.get?_push_of_some _ q) (fun M => ?_) fun q M => .obj q
    have hr' := (hr.mono M).pick (sliceRange (sliceBounds lo hi st vs.length).1 (sliceBounds lo hi st vs.length).2.1 (sliceBounds lo hi st vs.length).2.2)
    have e3 : slicePick vs.toArray lo hi st = ((sliceRange (sliceBounds lo hi st vs.length).1 (sliceBounds lo hi st vs.length).2.1 (sliceBounds lo hi st vs.length).2.2).filterMap fun i => vs[i]?).toArray := by
      unfold slicePick
      simp
    have e4 : pickL xs lo hi st = (sliceRange (sliceBounds lo hi st vs.length).1 (sliceBounds lo hi st vs.length).2.1 (sliceBounds lo hi st vs.length).2.2).filterMap fun i => xs[i]? := by
      unfold pickL
      rw [hr.1]
    rw [e4]
    rw [e3] at hr' ⊢
    exact .list (n := 0) (Heap.get?_push_size _ rfl) hr'

/-- a piece of a text -/
noncomputable def strCut (x : Str) (lo hi : Option Int) : Str := if (Builtin.Str.strSliceIndices lo hi 1 x.length).length == x.length then x else ⟨((Builtin.Str.strSliceIndices lo hi 1 x.length).filterMap (x.cps[·]?)).toArray⟩
theorem part_of {v : Value} {k : Option Int} (p : IsPart v k) : ∃ q : Option (Int × Tok), v = partValue q ∧ q.map (·.1) = k := by
  cases p with
  | none => exact ⟨none, rfl, rfl⟩
  | int i t => exact ⟨some (i, t), rfl, rfl⟩
theorem GetI.strSlice {x : Str} {lo hi : Option Int} (hx : x.length ≤ sizeLine) : GetI Z D (.str x) (.slice lo hi none) σ (.str (strCut x lo hi)) σ := by
  intro A s ρ v u ok r1 r2
  apply RepV.elim r1; intro _
  apply RepV.elim r2; intro _ _ _ _ e2 p1 p2 p3
  · obtain ⟨q1, rfl, e1⟩ := part_of p1
    obtain ⟨q2, rfl, e3⟩ := part_of p2
    cases p3
    refine wpAny_getItem_str_slice (l := q1) (u := q2) (st := none) ⟨_, e2, rfl, rfl⟩ rfl ?_
    have hp : slicePicked x q1 q2 none = Builtin.Str.strSliceIndices lo hi 1 x.length := by unfold slicePicked; rw [e1, e3]; rfl
    unfold sliceMade strCut
    rw [hp]
    show Made.post (if ((1 : Int) == 1 && _) = true then _ else _) _ s
    by_cases hc : ((Builtin.Str.strSliceIndices lo hi 1 x.length).length == x.length) = true
    · rw [hc]
      exact Post.now0 ok (.str _ _)
    · rw [Bool.not_eq_true] at hc
      rw [hc]
      refine ⟨?_, Post.now ok _ (.str _ _)⟩
      have h1 := sliceIndices_le lo hi x.length
      have h2 : ((Builtin.Str.strSliceIndices lo hi 1 x.length).filterMap (x.cps[·]?)).length ≤ (Builtin.Str.strSliceIndices lo hi 1 x.length).length := List.length_filterMap_le _ _
      show ((Builtin.Str.strSliceIndices lo hi 1 x.length).filterMap (x.cps[·]?)).toArray.size ≤ _
      simp only [List.size_toArray]
      omega
theorem GetI.tup {xs : List SV} {x : SV} {k : Int} {j : Nat} (hlo : -(2 ^ 63) ≤ k) (hhi : k < 2 ^ 63) (hj : seqIndex? k xs.length = some j) (hx : xs[j]? = some x) : GetI Z D (.tup xs) (.int k) σ x σ := by
  intro A s ρ v u ok r1 r2
  apply RepV.elim r2; intro _
  apply RepV.elim r1; intro vs a n e hl hr
  · obtain ⟨y, hy, ry⟩ := RepVs.get ⟨hl, hr⟩ hx
    exact PyProof.Rows.getItem_tuple (items := vs.toArray) (j := j) (x := y) ⟨_, e, rfl, n, rfl⟩ hlo hhi (by simpa [← hl] using hj) (by simpa using hy) (Post.now0 ok ry)

-- displays
theorem EvE.tuple {elts : List Expr} {k : Nat} {pos : Pos} {rs : List SV} (h1 : EvL Z D κ loc σ elts rs σ₁) (hn : rs.length ≤ sizeLine) : EvE Z D κ loc σ (.Tuple elts k pos) (.tup rs) σ₁ := fun A s ρ env ok fr =>
  wpAny_Tuple (wm (h1 A s ρ env pos ok fr) fun vs s₁ ⟨ρ₁, k₁, st₁, r₁⟩ => ⟨by rw [← r₁.1]; exact hn, Post.since st₁ (Post.grow k₁ _ (fun b o q => Heap.get?_push_of_some _ q) (RepV.newTuple k₁.rel r₁))⟩)
theorem EvE.list {elts : List Expr} {pos : Pos} {rs : List SV} (h1 : EvL Z D κ loc σ elts rs σ₁) (hn : rs.length ≤ sizeLine) : EvE Z D κ loc σ (.List elts pos) (.obj σ₁.length) (σ₁ ++ [.list rs]) := fun A s ρ env ok fr =>
  wpAny_List (wm (h1 A s ρ env pos ok fr) fun vs s₁ ⟨ρ₁, k₁, st₁, r₁⟩ => ⟨by rw [← r₁.1]; exact hn, Post.since st₁ (Post.push (o := .list rs) k₁ _ (get_size_none _) (fun b o q => Heap.get?_push_of_some _ q) (fun M => .list (Heap.get?_push_size _ rfl) (r₁.mono M)) fun q M => .obj q)⟩)

/-- stores into several targets in turn -/
inductive EvAs (Z : Zt) (D : Nat) (κ : Ctx) : Loc → List SObj → List Expr → List SV → Loc → List SObj → Prop
  | nil {loc : Loc} {σ : List SObj} : EvAs Z D κ loc σ [] [] loc σ
  | cons {loc loc₁ loc₂ : Loc} {σ σ₁ σ₂ : List SObj} {t : Expr} {ts : List Expr} {x : SV} {xs : List SV} : EvA Z D κ loc σ t x loc₁ σ₁ → EvAs Z D κ loc₁ σ₁ ts xs loc₂ σ₂ → EvAs Z D κ loc σ (t :: ts) (x :: xs) loc₂ σ₂
theorem EvAs.go {ts : List Expr} {xs : List SV} (h : EvAs Z D κ loc σ ts xs loc' σ') : ∀ {A : Around} {s : Shared} {ρ : List Addr} {env : Env} {vs : List Value}, Okh Z D A ρ σ s → FrH Z κ env ρ loc s → RepVs ρ s.heap xs vs →
    wpAny (model Z.prog Z.w) A (assignInOrder (ts.map fun t => PySem.assign t env) vs) (PostS Z D A κ env ρ s loc' σ' (fun _ _ (_ : Unit) => True)) bot s := by
  induction h with
  | nil =>
    intro A s ρ env vs ok fr rv
    apply RepVs.elim0 rv
    exact wpAny_assignInOrder_none (PostS.of_post fr (Post.now0 ok trivial))
  | cons h1 _ ih =>
    intro A s ρ env vs ok fr rv
    apply RepVs.elim1 rv; intro v us r1 r2
    exact wpAny_assignInOrder_more (wm (h1 A s ρ env v ok fr r1) fun _ s₁ ⟨ρ₁, k₁, st₁, f₁, _⟩ => wm (ih k₁ f₁ (r2.mono st₁.mono)) fun _ _ p => p.since st₁)
theorem EvA.tup {elts : List Expr} {k : Nat} {pos : Pos} {xs : List SV} (h : EvAs Z D κ loc σ elts xs loc' σ') (he : ∀ env, (assignEach elts env).map (·.2) = elts.map fun t => PySem.assign t env) (hn : elts.length = xs.length) (hst : ∀ env, (assignEach elts env).findIdx? (·.1) = none) :
    EvA Z D κ loc σ (.Tuple elts k pos) (.tup xs) loc' σ' := fun A s ρ env v ok fr rv => by
  apply RepV.elim rv; intro vs a n e hl hr
  · refine wpAny_assign_Tuple ok.handled (items := vs.toArray) ⟨_, e, rfl, n, rfl⟩ ?_ (hst env) fun h' hx => ?_
    · have := congrArg List.length (he env)
      simp at this ⊢
      rw [this, hn, hl]
    · have g : ∀ b o, s.heap.get? b = some o → h'.get? b = some o := fun b o q => hx b o (fun c => by rw [c, get_size_none] at q; cases q) q
      have p : Post Z D A [] ρ s σ (fun _ _ (_ : Unit) => True) () { s with heap := h', toks := s.toks } := Post.grow ok _ g trivial
      obtain ⟨ρ₁, k₁, st₁, _⟩ := p
      rw [he env]
      exact wm (h.go k₁ (fr.step st₁) (RepVs.mono st₁.mono ⟨hl, hr⟩)) fun _ _ p => p.since st₁.at
end
end Mine

namespace Mine
open PySem PySem.W PyProof.Rows PySem.Calls

section
variable {Z : Zt} {D : Nat} {κ : Ctx} {loc loc' loc₁ loc₂ loc₃ : Loc} {σ σ' σ₁ σ₂ σ₃ σ₄ : List SObj}

theorem Call.append {i : Nat} {xs : List SV} {x : SV} (e : σ[i]? = some (.list xs)) (h : xs.length ≤ sizeLine) : Call Z D (.fix (.builtin "list.append")) [.obj i, x] σ .none (σ.set i (.list (xs ++ [x]))) := .two fun A s ρ v u ok r1 r2 => by
  apply RelH.listE ok.rel e r1; intro a vs n ha hl hr
  refine call_meets F.slot_list_append ⟨_, hl, rfl⟩ F.entry_list_append (F.args_list_append_2 _ _) (PySem.list_append a vs.toArray n u (by simp [← hr.1]; exact h)) ⟨hl, ?_⟩
  exact Post.setList ok _ ha hl (us := vs ++ [u]) (by simp) (hr.push r2) fun _ _ => .none
theorem Call.reverse {i : Nat} {xs : List SV} (e : σ[i]? = some (.list xs)) (h : xs.length ≤ sizeLine) : Call Z D (.fix (.builtin "list.reverse")) [.obj i] σ .none (σ.set i (.list xs.reverse)) := .one fun A s ρ v ok r1 => by
  apply RelH.listE ok.rel e r1; intro a vs n ha hl hr
  refine call_meets F.slot_list_reverse ⟨_, hl, rfl⟩ F.entry_list_reverse (F.args_list_reverse_1 _) (AutoListH.list_reverse_list_0 a vs.toArray n (by simp [← hr.1]; exact h)) ⟨hl, ?_⟩
  exact Post.setList ok _ ha hl (us := vs.reverse) (by simp) hr.reverse fun _ _ => .none

theorem OpB.addList {i j : Nat} {xs ys : List SV} (e1 : σ[i]? = some (.list xs)) (e2 : σ[j]? = some (.list ys)) (h : xs.length + ys.length ≤ sizeLine) : OpB Z D .Add (.obj i) (.obj j) σ (.obj σ.length) (σ ++ [.list (xs ++ ys)]) := by
  intro A s ρ v u ok r1 r2
  apply RelH.listE ok.rel e1 r1; intro a vs n ha hl hr
  apply RelH.listE ok.rel e2 r2; intro b us m hb hl2 hr2
  refine P.add_list hl hl2 ?_ (by simp [← hr.1, ← hr2.1]; exact h)
  refine Post.push (o := .list (xs ++ ys)) ok _ (get_size_none _) (fun b o q => Heap.get?_push_of_some _ q) (fun M => .list (vs := vs ++ us) (n := 0) ?_ ((hr.mono M).append (hr2.mono M))) fun q M => .obj q
  rw [← List.append_toArray]
  exact Heap.get?_push_size _ rfl

theorem RepVs.replicate {ρ : List Addr} {h : Heap} {x : SV} {v : Value} (r : RepV ρ h x v) : ∀ n : Nat, RepVs ρ h (List.replicate n x) (List.replicate n v)
  | 0 => .nil
  | n + 1 => .cons r (RepVs.replicate r n)
theorem fold_replicate (v : Value) : ∀ (n : Nat) (a : Array Value), List.foldl (fun x1 x2 => x1 ++ x2) a (List.replicate n [v].toArray) = a ++ (List.replicate n v).toArray
  | 0, a => by simp
  | n + 1, a => by
    rw [List.replicate_succ, List.foldl_cons, fold_replicate v n, List.replicate_succ]
    apply Array.toList_inj.mp
    simp
theorem OpB.mulList {i : Nat} {x : SV} {k : Int} (e : σ[i]? = some (.list [x])) (h0 : 0 ≤ k) (hhi : k ≤ 2 ^ 24) : OpB Z D .Mult (.obj i) (.int k) σ (.obj σ.length) (σ ++ [.list (List.replicate k.toNat x)]) := by
  intro A s ρ v u ok r1 r2
  apply RelH.listE ok.rel e r1; intro a vs n ha hl hr
  obtain ⟨y, us, rfl, ry, r4⟩ := hr.uncons
  obtain rfl := r4.unnil
  apply RepV.elim r2; intro u
  refine wpAny_binaryOp_repeat_ref (T := "list") (U := "int") (by decide) ⟨_, hl, rfl⟩ (fun s' => typeIs_int s' k u) noFill_list_mul F.fills_int_mul F.slot_int_rmul repeat_list F.slot_int_index.lookup
    (call_meets F.slot_int_rmul (typeIs_int s k u) F.entry_int_rmul (F.args_int_rmul_2 _ _) (int___rmul___int_list k u a [y].toArray n) ⟨hl, rfl, ⟨_, hl, rfl⟩, ?_⟩)
  refine call_meets F.slot_list_mul ⟨_, hl, rfl⟩ F.entry_list_mul (F.args_list_mul_2 _ _) (AutoListH.list___mul___list_int_3 a [y].toArray n k u (by simp [Builtin.List.listFitsIndex]; (first | lia | omega)) (by simp; (first | lia | omega)) (by simp [Builtin.List.listTooLong, sizeLine]; (first | lia | omega))) ⟨hl, ?_⟩
  refine Post.push (o := .list (List.replicate k.toNat x)) ok _ (get_size_none _) (fun b o q => Heap.get?_push_of_some _ q) (fun M => .list (vs := List.replicate k.toNat y) (n := 0) ?_ (.replicate (ry.mono M) _)) fun q M => .obj q
  have : (List.foldl (fun x1 x2 => x1 ++ x2) #[] (List.replicate (if ([y].toArray : Array Value).isEmpty = true then 0 else k.toNat) [y].toArray)) = (List.replicate k.toNat y).toArray := by
    have h1 : ([y].toArray : Array Value).isEmpty = false := rfl
    rw [h1]
    simp only [Bool.false_eq_true, if_false]
    rw [fold_replicate]
    simp
  rw [this]
  exact Heap.get?_push_size _ rfl

theorem Call.count {x y : Str} : Call Z D (.fix (.builtin "str.count")) [.str x, .str y] σ (.int (Txt.count x y)) σ := .two fun A s ρ v u ok r1 r2 => by
  apply RepV.elim r1; intro _; apply RepV.elim r2; intro _
  exact SC.count (Post.now ok _ (.int _ _))
theorem strs_vals {ρ : List Addr} {h : Heap} : ∀ {xs : List Str} {vs : List Value}, RepVs ρ h (xs.map SV.str) vs → ∃ l : List (Str × Tok), vs = strValues l ∧ l.map (·.1) = xs
  | [], vs, r => ⟨[], by apply RepVs.elim0 r; rfl, rfl⟩
  | x :: xs, vs, r => by
    apply RepVs.elim1 (xs := xs.map SV.str) r; intro v us r1 r2
    obtain ⟨l, rfl, e⟩ := strs_vals r2
    apply RepV.elim r1; intro t
    exact ⟨(x, t) :: l, rfl, by simp [e]⟩
theorem Call.join {i : Nat} {x : Str} {xs : List Str} (e : σ[i]? = some (.list (xs.map SV.str))) (h : JoinOk x xs = true) : Call Z D (.fix (.builtin "str.join")) [.str x, .obj i] σ (.str (Txt.join x xs)) σ := .two fun A s ρ v u ok r1 r2 => by
  apply RepV.elim r1; intro _
  apply RelH.listE ok.rel e r2; intro a vs n ha hl hr
  obtain ⟨l, rfl, el⟩ := strs_vals hr
  exact SC.join (isList_of hl) el h fun t' k => Post.now ok _ (.str _ _)
theorem strsFrom_rep {ρ : List Addr} {h : Heap} : ∀ (xs : List Str) (t : Nat), RepVs ρ h (xs.map SV.str) (strsFrom t xs)
  | [], t => .nil
  | x :: xs, t => .cons (.str _ _) (strsFrom_rep xs (t + 1))
/-- str.split at a sign -/
noncomputable def splitAt (x y : Str) : List Str := if (decide (x.length < y.length) || decide (Builtin.Str.strKind x < Builtin.Str.strKind y)) = true then [x] else if (Builtin.Str.occurrences x y 0 x.length (x.length + 1)).isEmpty = true then [x] else Builtin.Str.partsBetween x (Builtin.Str.occurrences x y 0 x.length (x.length + 1)) y.length
theorem Call.split {x y : Str} (hy : (y.length == 0) = false) (hx : x.length ≤ sizeLine) (hn : (splitAt x y).length ≤ sizeLine) : Call Z D (.fix (.builtin "str.split")) [.str x, .str y] σ (.obj σ.length) (σ ++ [.list ((splitAt x y).map SV.str)]) := .two fun A s ρ v u ok r1 r2 => by
  apply RepV.elim r1; intro t
  apply RepV.elim r2; intro u
  unfold splitAt at hn ⊢
  have one : ∀ h', h' = s.heap.push { cls := .type "list", data := .seq [Value.str x t].toArray } → ∀ k, Post Z D A [] ρ s (σ ++ [.list [SV.str x]]) (isV (.obj σ.length)) (.ref s.heap.objs.size) { s with heap := h', toks := k } := by
    rintro h' rfl k
    exact Post.push (o := .list [SV.str x]) ok _ (get_size_none _) (fun b o q => Heap.get?_push_of_some _ q) (fun M => .list (vs := [Value.str x t]) (n := 0) (Heap.get?_push_size _ rfl) (.cons (.str _ _) .nil)) fun q M => .obj q
  cases h1 : (decide (x.length < y.length) || decide (Builtin.Str.strKind x < Builtin.Str.strKind y)) with
  | true => exact call_meets F.slot_str_split (typeIs_str _ _ _) F.entry_str_split (F.args_str_split_2 _ _) (meets_str_split_cannot_occur x y t u h1) (one _ rfl _)
  | false =>
    cases h2 : (Builtin.Str.occurrences x y 0 x.length (x.length + 1)).isEmpty with
    | true => exact call_meets F.slot_str_split (typeIs_str _ _ _) F.entry_str_split (F.args_str_split_2 _ _) (meets_str_split_not_found x y t u h1 hy h2) (one _ rfl _)
    | false =>
      rw [h1, h2] at hn
      refine call_meets F.slot_str_split (typeIs_str _ _ _) F.entry_str_split (F.args_str_split_2 _ _) (meets_str_split_sep x y t u h1 hy h2 hx hn) ?_
      exact Post.push (o := .list ((Builtin.Str.partsBetween x (Builtin.Str.occurrences x y 0 x.length (x.length + 1)) y.length).map SV.str)) ok _ (get_size_none _) (fun b o q => Heap.get?_push_of_some _ q) (fun M => .list (n := 0) (Heap.get?_push_size _ rfl) (strsFrom_rep _ _)) fun q M => .obj q

-- None
theorem OpC.isNotNone {a : SV} {b : Bool} (h : ∀ ρ h v, RepV ρ h a v → (!(v == .none)) = b) : OpC Z D .IsNot a .none σ (.bool b) σ := by
  intro A s ρ v u ok r1 r2
  apply RepV.elim r2
  exact isNot_none (by rw [h _ _ _ r1]; exact Post.now0 ok (.bool _))
theorem Tru.none : Tru Z D .none σ false σ := by
  intro A s ρ v ok r1
  apply RepV.elim r1
  exact truthy_none (Post.now0 ok rfl)
theorem Tru.list {i : Nat} {xs : List SV} (e : σ[i]? = some (.list xs)) (h : (xs.length : Int) < 2 ^ 63) : Tru Z D (.obj i) σ (!xs.isEmpty) σ := by
  intro A s ρ v ok r1
  apply RelH.listE ok.rel e r1; intro a vs n ha hl hr
  refine wpAny_truthy_list (isList_of hl) (by simpa [← hr.1] using h) ?_
  have := hr.1
  first
    | exact Post.now ok _ (by cases xs <;> cases vs <;> simp_all)
    | exact Post.now0 ok (by cases xs <;> cases vs <;> simp_all)
-- a store into a list
theorem EvA.sub {o i : Expr} {pos : Pos} {a b x : SV} (h1 : EvE Z D κ loc σ o a σ₁) (h2 : EvE Z D κ loc σ₁ i b σ₂) (h3 : SetI Z D a b x σ₂ σ₃) : EvA Z D κ loc σ (.Subscript o i pos) x loc σ₃ := fun A s ρ env v ok fr rv => by
  rw [arm_assign_Subscript]
  refine wpAny_bind (wpAny_holding (wm (h1 A s ρ env ok fr) fun ov s₁ ⟨ρ₁, k₁, st₁, r₁⟩ => wpAny_bind (wpAny_holding (wm (h2 A s₁ ρ₁ env k₁ (fr.step st₁)) fun iv s₂ ⟨ρ₂, k₂, st₂, r₂⟩ => wpAny_bind (wpAny_standAt (wpAny_bind (wpAny_holding
    (wm (h3 A s₂ ρ₂ ov iv v k₂ (r₁.mono st₂.mono) r₂ ((rv.mono st₁.mono).mono st₂.mono)) fun _ s₃ p => ?_))))))))
  exact wpAny_release (PostS.of_post fr (p.since (st₁.trans st₂)))
theorem EvS.augSub {o i e : Expr} {tpos pos : Pos} {op : Operator} {a b old v new : SV} {σ₅ σ₆ : List SObj} (h1 : EvE Z D κ loc σ o a σ₁) (h2 : EvE Z D κ loc σ₁ i b σ₂) (h3 : GetI Z D a b σ₂ old σ₃) (h4 : EvE Z D κ loc σ₃ e v σ₄) (h5 : OpI Z D op old v σ₄ new σ₅) (h6 : SetI Z D a b new σ₅ σ₆)
    (hi : ∀ ov iv new, augStore i ov iv new = (do holding [new, ov, iv] (setItem ov iv new); release [new, ov, iv] []; pure .next)) : EvS Z D κ loc σ (.AugAssign (.Subscript o i tpos) op e pos) .next loc σ₆ := fun A s ρ env ok fr =>
  wpAny_AugAssign_SubscriptAny (wm (h1 A s ρ env ok fr) fun ov s₁ ⟨ρ₁, k₁, st₁, r₁⟩ => wm (h2 A s₁ ρ₁ env k₁ (fr.step st₁)) fun iv s₂ ⟨ρ₂, k₂, st₂, r₂⟩ =>
    wm (h3 A s₂ ρ₂ ov iv k₂ (r₁.mono st₂.mono) r₂) fun ow s₃ ⟨ρ₃, k₃, st₃, r₃⟩ => wm (h4 A s₃ ρ₃ env k₃ (((fr.step st₁).step st₂).step st₃)) fun vv s₄ ⟨ρ₄, k₄, st₄, r₄⟩ =>
    wm (h5 A s₄ ρ₄ ow vv k₄ (r₃.mono st₄.mono) r₄) fun nv s₅ ⟨ρ₅, k₅, st₅, r₅⟩ => wm (h6 A s₅ ρ₅ ov iv nv k₅ ((((r₁.mono st₂.mono).mono st₃.mono).mono st₄.mono).mono st₅.mono) (((r₂.mono st₃.mono).mono st₄.mono).mono st₅.mono) r₅) fun _ s₆ ⟨ρ₆, k₆, st₆, _⟩ =>
    let st := (((((st₁.trans st₂).trans st₃).trans st₄).trans st₅).trans st₆); ⟨ρ₆, k₆, st.at, fr.step st, .next⟩) (hi)

-- likeness
inductive Same (σ : List SObj) : Nat → SV → SV → Prop
  | int {n : Nat} (i : Int) : Same σ n (.int i) (.int i)
  | str {n : Nat} (x : Str) : Same σ n (.str x) (.str x)
  | tup {n : Nat} {xs ys : List SV} : xs.length = ys.length → (∀ (i : Nat) (x y : SV), xs[i]? = some x → ys[i]? = some y → Same σ n x y) → Same σ (n + 1) (.tup xs) (.tup ys)
  | list {n i j : Nat} {xs ys : List SV} : σ[i]? = some (.list xs) → σ[j]? = some (.list ys) → xs.length = ys.length → (∀ (i : Nat) (x y : SV), xs[i]? = some x → ys[i]? = some y → Same σ n x y) → Same σ (n + 1) (.obj i) (.obj j)

theorem all_true (n : Nat) : (List.range n).all (fun _ => true) = true := by simp
theorem in1_units (A : Around) : A.in1.units = A.units + 1 := rfl
theorem Same.eqAt {ρ : List Addr} {s : Shared} (rel : RelH Z ρ σ s) {n : Nat} {a b : SV} (h : Same σ n a b) : ∀ {A : Around} {v u : Value}, A.units + n < cLine → RepV ρ s.heap a v → RepV ρ s.heap b u → SeqAt.EqAt A s v u true := by
  induction h with
  | int i =>
    intro A v u _ r1 r2
    apply RepV.elim r1; intro t
    apply RepV.elim r2; intro u
    have := (MeetsSeq.EqGives.int i i t u).at A s; simpa using this
  | str x =>
    intro A v u _ r1 r2
    apply RepV.elim r1; intro t
    apply RepV.elim r2; intro u
    have := (PyProof.Rows.eqGives_str x x t u).at A s; simpa using this
  | @tup n xs ys hl _ ih =>
    intro A v u hu r1 r2
    apply RepV.elim r1; intro vs a m e hlv hr
    apply RepV.elim r2; intro us b m' e' hlu hr'
    · by_cases hab : a = b
      · subst hab; exact .same _
      · refine .of_refs hab ?_
        have := SeqAt.RcAt.tuples (A := A) (e := fun _ => true) ⟨_, e, rfl, m, rfl⟩ ⟨_, e', rfl, m', rfl⟩ (by (first | lia | omega)) (fun j h1 h2 => ?_)
        · rw [all_true] at this
          have hs : (vs.toArray.size == us.toArray.size) = true := by simp; (first | lia | omega)
          rw [hs] at this
          exact this
        · simp only [List.size_toArray] at h1 h2
          obtain ⟨x, hx⟩ : ∃ x, xs[j]? = some x := ⟨_, List.getElem?_eq_getElem (by (first | lia | omega))⟩
          obtain ⟨y, hy⟩ : ∃ y, ys[j]? = some y := ⟨_, List.getElem?_eq_getElem (by (first | lia | omega))⟩
          exact ih j x y hx hy (by rw [in1_units]; (first | lia | omega)) (hr j x _ hx (by simp [h1])) (hr' j y _ hy (by simp [h2]))
  | @list n i j xs ys e1 e2 hl _ ih =>
    intro A v u hu r1 r2
    apply RelH.listE rel e1 r1; intro a vs m ha e hr
    apply RelH.listE rel e2 r2; intro b us m' hb e' hr'
    by_cases hab : a = b
    · subst hab; exact .same _
    · refine .of_refs hab ?_
      have := hr.1
      have := hr'.1
      have := SeqAt.RcAt.lists (A := A) (e := fun _ => true) (isList_of e) (isList_of e') (by simp; (first | lia | omega)) (by (first | lia | omega)) (fun j h1 h2 => ?_)
      · rw [all_true] at this
        exact this
      · simp only [List.size_toArray] at h1 h2
        obtain ⟨x, hx⟩ : ∃ x, xs[j]? = some x := ⟨_, List.getElem?_eq_getElem (by (first | lia | omega))⟩
        obtain ⟨y, hy⟩ : ∃ y, ys[j]? = some y := ⟨_, List.getElem?_eq_getElem (by (first | lia | omega))⟩
        exact ih j x y hx hy (by rw [in1_units]; (first | lia | omega)) (hr.2 j x _ hx (by simp [h1])) (hr'.2 j y _ hy (by simp [h2]))

theorem Okh.u {A : Around} {ρ : List Addr} {s : Shared} (k : Okh Z D A ρ σ s) {n : Nat} (h : n ≤ 8 * D) : A.units + n < cLine := by have := k.units; (first | lia | omega)
theorem OpC.neList {n i j : Nat} {xs ys : List SV} (e1 : σ[i]? = some (.list xs)) (e2 : σ[j]? = some (.list ys)) (hl : xs.length = ys.length) (h : ∀ (k : Nat) (x y : SV), xs[k]? = some x → ys[k]? = some y → Same σ n x y) (hn : n + 1 ≤ 8 * D) : OpC Z D .NotEq (.obj i) (.obj j) σ (.bool false) σ := by
  intro A s ρ v u ok r1 r2
  apply RelH.listE ok.rel e1 r1; intro a vs m ha e hr
  apply RelH.listE ok.rel e2 r2; intro b us m' hb e' hr'
  have q1 := hr.1
  have q2 := hr'.1
  have := SeqAt.RcNeAt.lists (A := A) (s := s) (e := fun _ => true) (isList_of e) (isList_of e') (by simp; (first | lia | omega)) (by have := ok.u hn; (first | lia | omega)) (fun j h1 h2 => ?_)
  · rw [all_true] at this
    exact this _ _ _ _ (Post.now0 ok (.bool _))
  · simp only [List.size_toArray] at h1 h2
    obtain ⟨x, hx⟩ : ∃ x, xs[j]? = some x := ⟨_, List.getElem?_eq_getElem (by (first | lia | omega))⟩
    obtain ⟨y, hy⟩ : ∃ y, ys[j]? = some y := ⟨_, List.getElem?_eq_getElem (by (first | lia | omega))⟩
    exact (h j x y hx hy).eqAt ok.rel (by rw [in1_units]; have := ok.u hn; (first | lia | omega)) (hr.2 j x _ hx (by simp [h1])) (hr'.2 j y _ hy (by simp [h2]))
theorem OpC.eqList {n i j : Nat} {xs ys : List SV} (e1 : σ[i]? = some (.list xs)) (e2 : σ[j]? = some (.list ys)) (hl : xs.length = ys.length) (h : ∀ (k : Nat) (x y : SV), xs[k]? = some x → ys[k]? = some y → Same σ n x y) (hn : n + 1 ≤ 8 * D) : OpC Z D .Eq (.obj i) (.obj j) σ (.bool true) σ := by
  intro A s ρ v u ok r1 r2
  apply RelH.listE ok.rel e1 r1; intro a vs m ha e hr
  apply RelH.listE ok.rel e2 r2; intro b us m' hb e' hr'
  have q1 := hr.1
  have q2 := hr'.1
  refine SeqAt.eq_listAt (e := fun _ => true) (isList_of e) (isList_of e') (by simp; (first | lia | omega)) (by have := ok.u hn; (first | lia | omega)) (fun j h1 h2 => ?_) ?_
  · simp only [List.size_toArray] at h1 h2
    obtain ⟨x, hx⟩ : ∃ x, xs[j]? = some x := ⟨_, List.getElem?_eq_getElem (by (first | lia | omega))⟩
    obtain ⟨y, hy⟩ : ∃ y, ys[j]? = some y := ⟨_, List.getElem?_eq_getElem (by (first | lia | omega))⟩
    exact (h j x y hx hy).eqAt ok.rel (by rw [in1_units]; have := ok.u hn; (first | lia | omega)) (hr.2 j x _ hx (by simp [h1])) (hr'.2 j y _ hy (by simp [h2]))
  · rw [all_true]
    exact Post.now0 ok (.bool _)
theorem OpC.eqLens {i j : Nat} {xs ys : List SV} (e1 : σ[i]? = some (.list xs)) (e2 : σ[j]? = some (.list ys)) (hl : xs.length ≠ ys.length) : OpC Z D .Eq (.obj i) (.obj j) σ (.bool false) σ := by
  intro A s ρ v u ok r1 r2
  apply RelH.listE ok.rel e1 r1; intro a vs m ha e hr
  apply RelH.listE ok.rel e2 r2; intro b us m' hb e' hr'
  have q1 := hr.1
  have q2 := hr'.1
  exact SeqAt.eq_list_lengthsAt (isList_of e) (isList_of e') (by simp; (first | lia | omega)) (by have := ok.u (n := 0) (by (first | lia | omega)); (first | lia | omega)) (Post.now0 ok (.bool _))
end
end Mine

namespace Mine
open PySem PySem.W PyProof.Rows PySem.Calls

section
variable {Z : Zt} {D : Nat} {κ : Ctx} {loc loc' loc₁ loc₂ loc₃ : Loc} {σ σ' σ₁ σ₂ σ₃ σ₄ : List SObj}

/-- several new tracked objects -/
theorem RelH.pushes {ρ as : List Addr} {τ : List SObj} {s : Shared} {h' : Heap} {t : Nat} (r : RelH Z ρ σ s) (hf : ∀ a ∈ as, s.heap.get? a = none) (hnd : as.Nodup) (hlen : as.length = τ.length) (k : ∀ b o, s.heap.get? b = some o → h'.get? b = some o)
    (ho : Mono ρ s.heap (ρ ++ as) h' → ∀ (i : Nat) (o : SObj) (a : Addr), τ[i]? = some o → as[i]? = some a → RepO (ρ ++ as) h' o a) : RelH Z (ρ ++ as) (σ ++ τ) { s with heap := h', toks := t } ∧ Mono ρ s.heap (ρ ++ as) h' := by
  have m : Mono ρ s.heap (ρ ++ as) h' := ⟨⟨as, rfl, hf⟩, fun b o e _ _ => k b o e⟩
  have fr : ∀ a ∈ as, a ∉ ρ ∧ a ∉ TB ∧ Z.H0.get? a = none := fun a ha => r.fresh (hf a ha)
  refine ⟨?_, m⟩
  exact {
    len := by simp [r.len, hlen]
    nodup := by
      rw [List.nodup_append]
      exact ⟨r.nodup, hnd, fun x hx y hy q => (fr y hy).1 (q ▸ hx)⟩
    new := fun b hb => by
      rcases List.mem_append.mp hb with x | x
      · exact r.new b x
      · exact ⟨(fr b x).2.2, (fr b x).2.1⟩
    objs := fun j o b e1 e2 => by
      by_cases hj : j < ρ.length
      · rw [List.getElem?_append_left hj] at e2
        rw [List.getElem?_append_left (by rw [← r.len]; exact hj)] at e1
        have := r.objs j o b e1 e2
        obtain ⟨ob, eo⟩ := this.live
        exact this.mono m ((k b ob eo).trans eo.symm)
      · rw [List.getElem?_append_right (by (first | lia | omega))] at e2
        rw [List.getElem?_append_right (by rw [← r.len]; (first | lia | omega)), ← r.len] at e1
        exact ho m _ o b e1 e2
    base := fun b o e => k b o (r.base b o e)
    tabs := fun T hT => by
      obtain ⟨ps, e⟩ := r.tb T.P (r.inTB T hT)
      exact (r.tabs T hT).keep m ((k _ _ e).trans e.symm)
    inTB := r.inTB
    tb := fun P hP => let ⟨ps, e⟩ := r.tb P hP; ⟨ps, k _ _ e⟩
    gens := r.gens
    os := r.os }

noncomputable def idxs : Nat → List (Str × Nat) → List (Str × Nat)
  | _, [] => []
  | b, (x, _) :: r => (x, b) :: idxs (b + 1) r
theorem idxs_lt : ∀ (cn : List (Str × Nat)) (b : Nat) (x : Str × Nat), x ∈ idxs b cn → x.2 < b + cn.length
  | [], _, _, h => nomatch h
  | (y, _) :: r, b, x, h => by
    rcases List.mem_cons.mp h with rfl | h
    · show b < b + (r.length + 1); (first | lia | omega)
    · have := idxs_lt r (b + 1) x h
      show x.2 < b + (r.length + 1)
      (first | lia | omega)
theorem addrs_idxs (n : Nat) : ∀ (cn : List (Str × Nat)) (pre : List Addr), addrsOf (pre ++ cn.map fun x => n + x.2) (idxs pre.length cn) = cn.map fun x => (x.1, n + x.2)
  | [], _ => rfl
  | (y, k) :: r, pre => by
    have ih := addrs_idxs n r (pre ++ [n + k])
    rw [List.length_append, List.length_singleton, List.append_assoc] at ih
    show (y, (pre ++ (n + k) :: r.map fun x => n + x.2).getD pre.length 0) :: addrsOf (pre ++ (n + k) :: r.map fun x => n + x.2) (idxs (pre.length + 1) r) = (y, n + k) :: r.map fun x => (x.1, n + x.2)
    have e : (pre ++ (n + k) :: r.map fun x => n + x.2).getD pre.length 0 = n + k := by
      rw [List.getD_eq_getElem?_getD, List.getElem?_append_right (Nat.le_refl _), Nat.sub_self]; rfl
    rw [e]
    exact congrArg _ ih

theorem lookup_of_mem {α : Type} : ∀ {l : List (Str × α)} {n : Str} {c : α}, (l.map (·.1)).Nodup → (n, c) ∈ l → l.lookup n = some c
  | [], _, _, _, h => nomatch h
  | (y, d) :: r, n, c, hn, h => by
    rw [List.map_cons, List.nodup_cons] at hn
    rcases List.mem_cons.mp h with q | q
    · cases q; rw [List.lookup_cons]; simp
    · have : n ≠ y := fun e => hn.1 (List.mem_map.mpr ⟨(n, c), q, e⟩)
      have hb : (n == y) = false := by simpa using this
      rw [List.lookup_cons, hb]
      exact lookup_of_mem hn.2 q

theorem CallC.fnC (hZ : Z.Ok) {a : Addr} {fd : FuncData} {body : List Stmt} {names : List Str} {rs : List SV} {cn : List (Str × Nat)} {f : AF} (F : IsFn Z a fd body) (hbind : ∀ vs : List Value, vs.length = rs.length → bindArgs fd ⟨vs, []⟩ = pure (names.zip vs)) (hnl : names.length = rs.length)
    (hcf : ∀ n, cellsFrom n fd.scope.names [] = cn.map fun x => (x.1, n + x.2)) (hcn : (cn.map (·.1)).Nodup) (hkind : ∀ n ∈ names, fd.scope.names.lookup n = some .local ∨ (fd.scope.names.lookup n = some .cell ∧ n ∈ cn.map (·.1)))
    (h : EvSs Z D ⟨fd.qualname, fd.scope, fd.code, idxs σ.length cn⟩ (locB fd.scope.names (names.zip rs) []) (σ ++ cn.map fun x => .cell (cellB fd.scope.names (names.zip rs) (fun _ => none) x.1)) body f loc' σ') : CallC Z (D + 1) (.fix (.ref a)) rs σ (retOf f) σ' := by
  intro A s ρ v us ok r1 r2
  apply RepV.elim r1
  obtain ⟨o, e1, e2⟩ := F.obj
  have hmap : (names.zip us).map (·.1) = names := by rw [← List.unzip_fst, List.unzip_zip (by rw [hnl, r2.1])]
  refine codeAny_call_cells (fd := fd) (body := body) (vals := us) (binds := names.zip us) (by have := ok.depth; (first | lia | omega)) (ok.rel.base _ _ e1) e2 (hZ.lim.keeps ok.rel.base) (F.code.keeps ok.rel.base) F.body (hbind us r2.1.symm) F.clos
    (fun x hx => ?_) (fun s₁ x => ?_) F.co F.gen F.kind
  · rcases hkind x.1 (by rw [← hmap]; exact List.mem_map_of_mem hx) with q | ⟨q1, q2⟩
    · exact .inl q
    · refine .inr ⟨q1, ?_⟩
      rw [hcf]
      obtain ⟨y, hy, ey⟩ := List.mem_map.mp q2
      rw [lookup_of_mem (c := s.heap.objs.size + 1 + y.2) (by rw [List.map_map]; exact hcn) (List.mem_map.mpr ⟨y, hy, by rw [ey]⟩)]
      rfl
  obtain ⟨h', tk, rfl, hkp⟩ := x.done
  have hcs : (callEnvC fd s.heap.objs.size a).cells = cn.map fun x => (x.1, s.heap.objs.size + 1 + x.2) := hcf _
  have hfr : ∀ c ∈ cn.map (fun x => s.heap.objs.size + 1 + x.2), s.heap.get? c = none := fun c hc => by
    obtain ⟨y, hy, rfl⟩ := List.mem_map.mp hc
    cases q : s.heap.get? (s.heap.objs.size + 1 + y.2) with
    | none => rfl
    | some o => have : s.heap.objs.size + 1 + y.2 < s.heap.objs.size := Heap.lt_size q; exact absurd this (by (first | lia | omega))
  have hnd2 : (cn.map (fun x => s.heap.objs.size + 1 + x.2)).Nodup := by
    have := x.apart
    rw [hcs, List.pairwise_map] at this
    rw [List.Nodup, List.pairwise_map]
    exact this
  have cr : ∀ y, CellRep ρ s.heap (cellB fd.scope.names (names.zip rs) (fun _ => none) y) (bindC (callEnvC fd s.heap.objs.size a).kindOf (names.zip us) (fun _ => none) y) := fun y => bindC_rep (kinds := fd.scope.names) (c := fun _ => none) (m := fun _ => none) r2 (fun _ => trivial) y
  have hL : s.heap.get? s.heap.objs.size = none := get_size_none _
  obtain ⟨rel, m⟩ := ok.rel.pushes (t := tk) (τ := cn.map fun x => SObj.cell (cellB fd.scope.names (names.zip rs) (fun _ => none) x.1)) hfr hnd2 (by simp) hkp (fun M i o c e3 e4 => by
    rw [List.getElem?_map] at e3 e4
    obtain ⟨y, ey, rfl⟩ := Option.map_eq_some_iff.mp e3
    rw [ey] at e4
    cases e4
    obtain ⟨oc, q1, q2⟩ := x.cell y.1 (s.heap.objs.size + 1 + y.2) (by rw [hcs]; exact lookup_of_mem (by rw [List.map_map]; exact hcn) (List.mem_map.mpr ⟨y, List.mem_of_getElem? ey, rfl⟩))
    exact .cell q1 q2 ((cr y.1).mono M))
  obtain ⟨f1, f2, f3⟩ := ok.rel.fresh hL
  have hLn : s.heap.objs.size ∉ ρ ++ cn.map (fun x => s.heap.objs.size + 1 + x.2) := fun hm => by
    rcases List.mem_append.mp hm with q | q
    · exact f1 q
    · obtain ⟨y, _, e⟩ := List.mem_map.mp q
      (first | lia | omega)
  have st1 : Step A [] ρ s (ρ ++ cn.map (fun x => s.heap.objs.size + 1 + x.2)) { s with heap := h', toks := tk } := ⟨m, fun b o e => ⟨o, hkp b o e⟩, fun b o _ _ e d _ _ => ⟨o, hkp b o e, d, fun _ => rfl⟩⟩
  have hns := x.toInCall.ns
  obtain ⟨oL, es, ep, n1, n2, _, _⟩ := id hns
  have fr : FrH Z ⟨fd.qualname, fd.scope, fd.code, idxs σ.length cn⟩ (callEnvC fd s.heap.objs.size a) (ρ ++ cn.map (fun x => s.heap.objs.size + 1 + x.2)) (locB fd.scope.names (names.zip rs) []) { s with heap := h', toks := tk } :=
    ⟨rfl, F.kind, F.glob, F.bltn, rfl, rfl, rfl, ⟨by rw [hcs, ← ok.rel.len]; exact (addrs_idxs _ cn ρ).symm, fun y hy => by
      have := idxs_lt cn _ y hy
      rw [List.length_append, List.length_map, ok.rel.len]; exact this⟩, hLn, f2, f3, ⟨_, hns, bindL_rep (kinds := fd.scope.names) (r2.mono m) (fun y z e => by simp at e)⟩⟩
  have ok0 : Okh Z (D + 1) A (ρ ++ cn.map (fun x => s.heap.objs.size + 1 + x.2)) (σ ++ cn.map fun x => SObj.cell (cellB fd.scope.names (names.zip rs) (fun _ => none) x.1)) { s with heap := h', toks := tk } := ok.after st1 rel
  have ok1 : Okh Z D (A.deeper (callEnvC fd s.heap.objs.size a)) (ρ ++ cn.map (fun x => s.heap.objs.size + 1 + x.2)) (σ ++ cn.map fun x => SObj.cell (cellB fd.scope.names (names.zip rs) (fun _ => none) x.1)) { s with heap := h', toks := tk } := by
    obtain ⟨outer, h1, h2⟩ := ok0.frames
    refine ⟨by have := ok.depth; show A.depth + 1 + D < _; (first | lia | omega), by have := ok.units; show A.units + 3 + 8 * D < _; (first | lia | omega), ok.handled, ⟨_, phi_deeper h1, fun e he => ?_⟩, rel⟩
    rcases List.mem_cons.mp he with rfl | he
    · exact ⟨_, rfl, by rw [show (callEnvC fd s.heap.objs.size a).scope.kind = .function from F.kind]; decide, hLn, f2, f3, oL, es, ep, n1, n2⟩
    · exact h2 e he
  exact wpAny_mono (h _ _ _ _ ok1 fr) (fun fl s' p => leave_body ok st1 hL rfl p) fun _ _ x => x.elim
end
end Mine

namespace Mine
open PySem PySem.W PyProof.Rows PySem.Calls

section
variable {Z : Zt} {D : Nat} {κ : Ctx} {loc loc' loc₁ loc₂ loc₃ : Loc} {σ σ' σ₁ σ₂ σ₃ σ₄ : List SObj}

theorem isStr_key {x name : Str} {t : Tok} : (Value.str x t).isStr name = (name == x) := by
  show (x == name) = (name == x)
  exact Bool.eq_iff_iff.mpr (by rw [beq_iff_eq, beq_iff_eq]; exact eq_comm)
theorem RepD.noRef {ρ : List Addr} {h : Heap} {es : List DictEntry} {fs : List (Str × SV)} (r : RepD ρ h es fs) : es.any (·.refKey) = false := by
  induction r with
  | nil => rfl
  | cons e _ _ ih => rw [List.any_cons, ih]; unfold DictEntry.refKey; rw [e]; rfl
theorem RepD.find {ρ : List Addr} {h : Heap} {es : List DictEntry} {fs : List (Str × SV)} (r : RepD ρ h es fs) (name : Str) : match fs.lookup name with | some y => ∃ v, getL name es = some (some v) ∧ RepV ρ h y v | none => getL name es = some none := by
  induction r with
  | nil => rfl
  | @cons e es x t y fs ek rv r ih =>
    have hk := RepD.noRef (.cons ek rv r)
    rw [List.lookup_cons]
    cases hb : name == x with
    | true =>
      refine ⟨e.val, ?_, rv⟩
      unfold getL
      rw [List.find?_cons, show e.key.isStr name = true from by rw [ek, isStr_key, hb]]
    | false =>
      have e1 : getL name (e :: es) = getL name es := by
        unfold getL
        rw [List.find?_cons, show e.key.isStr name = false from by rw [ek, isStr_key, hb], hk, r.noRef]
      rw [e1]
      exact ih
theorem RepD.put {ρ : List Addr} {h : Heap} {es : List DictEntry} {fs : List (Str × SV)} (r : RepD ρ h es fs) (name : Str) (hsh : Int) (t : Tok) {y : SV} {v : Value} (rv : RepV ρ h y v) : RepD ρ h (putL name hsh (.str name t) v es) (upd fs name y) := by
  induction r with
  | nil => exact .cons rfl rv .nil
  | @cons e es x t' y' fs ek rv' r ih =>
    unfold putL upd
    by_cases q : x = name
    · subst q
      rw [if_pos rfl, show e.key.isStr x = true from by rw [ek, isStr_key]; simp]
      exact .cons ek rv r
    · rw [if_neg q, show e.key.isStr name = false from by rw [ek, isStr_key]; simpa using fun c => q c.symm]
      exact .cons ek rv' ih

theorem RelH.inst {ρ : List Addr} {s : Shared} (r : RelH Z ρ σ s) {C : Addr} {i : Nat} {fs : List (Str × SV)} {v : Value} (e : σ[i]? = some (.dict fs)) (hv : RepV ρ s.heap (.inst C i) v) :
    ∃ x d es n, v = .ref x ∧ InstAt s.heap x ⟨.ref C, some d, .plain, #[]⟩ C (some (dictOf es n)) ∧ ρ[i]? = some d ∧ s.heap.get? d = some (dictOf es n) ∧ RepD ρ s.heap es fs := by
  apply RepV.elim hv; intro _ _ h1 h2
  apply RepO.elim (r.objs i _ _ e h2); intro _ _ n1 n2
  exact ⟨_, _, _, _, rfl, ⟨h1, rfl, rfl, n1⟩, h2, n1, n2⟩

structure ClsOk (Z : Zt) (C : Addr) : Prop where
  ga : findIn Z.K (.ref C) "__getattribute__" = some (some (.builtin "object.__getattribute__"))
  gg : findIn Z.K (.ref C) "__getattr__" = some none
  hd : hasDictIn Z.K C = true
  sa : findIn Z.K (.ref C) "__setattr__" = some (some (.builtin "object.__setattr__"))
  over : plainOver Z.K C = true

noncomputable abbrev GetA (Z : Zt) (D : Nat) (a : SV) (name : Str) (σ : List SObj) (r : SV) (σ' : List SObj) : Prop := ∀ expr : Bool, Una Z D a σ (fun v => getAttr v name expr) σ' (isV r)
noncomputable abbrev SetA (Z : Zt) (D : Nat) (a : SV) (name : Str) (b : SV) (σ σ' : List SObj) : Prop := Bin Z D a b σ (fun v u => setAttr v name u) σ' isU
noncomputable def Handed (r : SV) : Prop := match r with | .fix v => handedIn v = true | _ => True
theorem Handed.of {ρ : List Addr} {h : Heap} {r : SV} {v : Value} (x : Handed r) (rv : RepV ρ h r v) : handedIn v = true := by
  cases rv <;> first | exact x | rfl

theorem GetA.own (hZ : Z.Ok) {C : Addr} {i : Nat} {fs : List (Str × SV)} {name : Str} {r : SV} (K : ClsOk Z C) (e : σ[i]? = some (.dict fs)) (hl : fs.lookup name = some r) (ha : findIn Z.K (.ref C) name = some none) (hh : Handed r) : GetA Z D (.inst C i) name σ r σ := by
  intro expr A s ρ v ok r1
  obtain ⟨x, d, es, n, rfl, I, hd, n1, n2⟩ := ok.rel.inst e r1
  have := n2.find name
  rw [hl] at this
  obtain ⟨u, e1, ru⟩ := this
  exact get_value (ok.rel.k hZ) I K.ga (findObj_own K.hd ha rfl e1) (hh.of ru) (Post.now ok _ ru)
theorem Meth.cls (hZ : Z.Ok) {C f : Addr} {i : Nat} {fs : List (Str × SV)} {name : Str} (K : ClsOk Z C) (e : σ[i]? = some (.dict fs)) (hl : fs.lookup name = none) (ha : findIn Z.K (.ref C) name = some (some (.ref f))) (ht : typeIn Z.K (.ref f) = some (.type "function")) :
    Meth Z D (.inst C i) name σ (.fix (.ref f)) [.inst C i] σ := by
  intro pl A s ρ v ok r1
  obtain ⟨x, d, es, n, rfl, I, hd, n1, n2⟩ := ok.rel.inst e r1
  have e1 : getL name es = some none := by have := n2.find name; rw [hl] at this; exact this
  exact method_fn (ok.rel.k hZ) I K.ga K.gg ha ht (by show (getL name es).map (·.isSome) = some false; rw [e1]; rfl) (Post.now0 ok ⟨.fix _, .cons r1 .nil⟩)
theorem Meth.own (hZ : Z.Ok) {C : Addr} {i : Nat} {fs : List (Str × SV)} {name : Str} {r : SV} (K : ClsOk Z C) (e : σ[i]? = some (.dict fs)) (hl : fs.lookup name = some r) (ha : findIn Z.K (.ref C) name = some none) (hh : Handed r) : Meth Z D (.inst C i) name σ r [] σ := by
  intro pl A s ρ v ok r1
  obtain ⟨x, d, es, n, rfl, I, hd, n1, n2⟩ := ok.rel.inst e r1
  exact method_usual (ok.rel.k hZ) I K.ga K.gg ha rfl (wm (GetA.own hZ K e hl ha hh _ A s ρ _ ok r1) fun u s' ⟨ρ', k', st', ra⟩ => ⟨ρ', k', st', ra, .nil⟩)
/-- a bound method as a value -/
theorem GetA.bound (hZ : Z.Ok) {C f : Addr} {i : Nat} {fs : List (Str × SV)} {name : Str} (K : ClsOk Z C) (e : σ[i]? = some (.dict fs)) (hl : fs.lookup name = none) (hf : ∀ od, lookIn name od = some none → findObj Z.K C (some od) name = some (.bind (.builtin "function.__get__") (.ref f)))
    (ht : typeIn Z.K (.ref f) = some (.type "function")) : GetA Z D (.inst C i) name σ (.meth (.ref f) (.inst C i)) σ := by
  intro expr A s ρ v ok r1
  obtain ⟨x, d, es, n, rfl, I, hd, n1, n2⟩ := ok.rel.inst e r1
  have e1 : getL name es = some none := by have := n2.find name; rw [hl] at this; exact this
  refine get_bind (ok.rel.k hZ) I K.ga (hf _ e1) K.gg (wpAny_call (fn_get (s := { s with toks := s.toks + 1 }) (ok.rel.k hZ) ht ?_))
  refine handed_on rfl ?_
  refine Post.grow ok _ (fun b o q => Heap.get?_push_of_some _ q) ?_
  exact .meth (Heap.get?_push_size _ rfl) (r1.mono (.of_keep fun b o q => Heap.get?_push_of_some _ q))

theorem SetA.dict (hZ : Z.Ok) {C : Addr} {i : Nat} {fs : List (Str × SV)} {name : Str} {r : SV} (K : ClsOk Z C) (e : σ[i]? = some (.dict fs)) (ht : takerIn Z.K C name = some none) (hn : (upd fs name r).length ≤ 1000) : SetA Z D (.inst C i) name r σ (σ.set i (.dict (upd fs name r))) := by
  intro A s ρ v u ok r1 r2
  obtain ⟨x, d, es, n, rfl, I, hd, n1, n2⟩ := ok.rel.inst e r1
  have X := ok.rel.k hZ
  refine set_plain X I K.sa (osa_open (s := { s with toks := s.toks + 1 }) X I K.over ht fun b => ?_)
  obtain ⟨cd, hc, hd'⟩ := any_some K.hd
  obtain ⟨hx, hcl, hno, -⟩ := I
  refine wpAny_bind (wpAny_pure (wpAny_bind (wpAny_bind (wpAny_loadPart hx (wpAny_bind ((looks_clsIn X hc).here (s := { s with toks := s.toks + 1 }) ?_))))))
  rw [hd']
  refine wpAny_pure (a := some d) (wpAny_bind (wpAny_pure (wpAny_bind ?_)))
  unfold nsSet
  refine wpAny_bind (wpAny_bind (wpAny_askSetting (wpAny_pure (wpAny_bind (wpAny_mkText (wpAny_bind (wpAny_loadPart n1 ?_)))))))
  dsimp only
  have nk : es.any (·.refKey) = false := n2.noRef
  have c : (!(es.toArray).any (·.key.isStr name) && (es.toArray).any (·.refKey)) = false := by
    rw [← Array.any_toList (p := fun e : DictEntry => e.refKey)]
    rw [show (es.toArray.toList.any fun e => e.refKey) = false from nk, Bool.and_false]
  rw [aRefKeyMayBeTheName_at, c]
  refine wpAny_updatePart n1 ?_
  have e2 : (s.heap.update d (Obj.putName name (PyData.keyHash Z.w.params name) (.str name (s.toks + 1)) u)).get? d = some (dictOf (putL name (PyData.keyHash Z.w.params name) (.str name (s.toks + 1)) u es) (putN name es n)) := by
    have := Heap.get?_update_self (Obj.putName name (PyData.keyHash Z.w.params name) (.str name (s.toks + 1)) u) n1 (by rw [putName_dict]; rfl)
    rw [putName_dict] at this
    exact this
  have rd := n2.put name (PyData.keyHash Z.w.params name) (s.toks + 1) r2
  refine wpAny_bind (wpAny_lookBehind e2 (pastItsLine_dict (by rw [List.size_toArray, rd.length, sizeLine_eq]; (first | lia | omega))) ?_)
  exact wpAny_pure (Post.set ok _ hd (Heap.SameBut.update ..).extBut ⟨_, e2⟩ (fun M => .dict e2 (rd.mono M)) fun _ => trivial)

-- the forms
theorem EvE.attr {o : Expr} {name : Str} {pos : Pos} {a r : SV} (h1 : EvE Z D κ loc σ o a σ₁) (h2 : GetA Z D a name σ₁ r σ₂) (hb : ∀ env, attributeBase o name env (eval o env) = eval o env) : EvE Z D κ loc σ (.Attribute o name pos) r σ₂ := fun A s ρ env ok fr => by
  rw [arm_eval_Attribute, hb]
  exact wpAny_bind (wm (h1 A s ρ env ok fr) fun v s₁ ⟨ρ₁, k₁, st₁, r₁⟩ => wpAny_bind (wpAny_standAt (wpAny_bind (wpAny_holding (wm (h2 true A s₁ ρ₁ v k₁ r₁) fun u s₂ p => wpAny_bind (wpAny_letTemporaryGo (wpAny_pure (p.since st₁))))))))
theorem EvA.attr {o : Expr} {name : Str} {pos : Pos} {a x : SV} (h1 : EvE Z D κ loc σ o a σ₁) (h2 : SetA Z D a name x σ₁ σ₂) : EvA Z D κ loc σ (.Attribute o name pos) x loc σ₂ := fun A s ρ env v ok fr rv => by
  rw [arm_assign_Attribute]
  exact wpAny_bind (wpAny_holding (wm (h1 A s ρ env ok fr) fun ov s₁ ⟨ρ₁, k₁, st₁, r₁⟩ => wpAny_bind (wpAny_standAt (wpAny_bind (wpAny_holding (wm (h2 A s₁ ρ₁ ov v k₁ r₁ (rv.mono st₁.mono)) fun _ s₂ p =>
    wpAny_release (PostS.of_post fr (p.since st₁))))))))
theorem EvS.augAttr {o e : Expr} {name : Str} {tpos pos : Pos} {op : Operator} {a old v new : SV} {σ₅ : List SObj} (h1 : EvE Z D κ loc σ o a σ₁) (h2 : GetA Z D a name σ₁ old σ₂) (h3 : EvE Z D κ loc σ₂ e v σ₃) (h4 : OpI Z D op old v σ₃ new σ₄) (h5 : SetA Z D a name new σ₄ σ₅) :
    EvS Z D κ loc σ (.AugAssign (.Attribute o name tpos) op e pos) .next loc σ₅ := fun A s ρ env ok fr =>
  wpAny_AugAssign_AttributeAny (wm (h1 A s ρ env ok fr) fun ov s₁ ⟨ρ₁, k₁, st₁, r₁⟩ => wm (h2 true A s₁ ρ₁ ov k₁ r₁) fun ow s₂ ⟨ρ₂, k₂, st₂, r₂⟩ =>
    wm (h3 A s₂ ρ₂ env k₂ ((fr.step st₁).step st₂)) fun vv s₃ ⟨ρ₃, k₃, st₃, r₃⟩ => wm (h4 A s₃ ρ₃ ow vv k₃ (r₂.mono st₃.mono) r₃) fun nv s₄ ⟨ρ₄, k₄, st₄, r₄⟩ =>
    wm (h5 A s₄ ρ₄ ov nv k₄ (((r₁.mono st₂.mono).mono st₃.mono).mono st₄.mono) r₄) fun _ s₅ ⟨ρ₅, k₅, st₅, _⟩ =>
    let st := ((((st₁.trans st₂).trans st₃).trans st₄).trans st₅); ⟨ρ₅, k₅, st.at, fr.step st, .next⟩)

-- making an object
theorem under_frames (A : Around) (C : Addr) (vals : List Value) : (A.under (.builtin "type.__call__" ⟨.ref C :: vals, []⟩)).frames = A.frames := rfl
theorem CallC.make (hZ : Z.Ok) {C fI : Addr} {rs : List SV} {fs : List (Str × SV)} (hm : makesIn Z.K C = true) (hi : findIn Z.K (.ref C) "__init__" = some (some (.ref fI))) (hf : typeIn Z.K (.ref fI) = some (.type "function"))
    (h : CallC Z D (.fix (.ref fI)) (.inst C σ.length :: rs) (σ ++ [.dict []]) .none σ') : CallC Z (D + 1) (.fix (.ref C)) rs σ (.inst C σ.length) σ' := by
  intro A s ρ v us ok r1 r2
  apply RepV.elim r1
  obtain ⟨hh, g, d, tk, os⟩ := s
  refine make_core (makes_of (ok.rel.k hZ) hm) (looks_findIn (ok.rel.k hZ) hi) (fun self => bind_fn (ok.rel.k hZ) self hf) (.inl rfl) ?_
  obtain ⟨rel, m⟩ := ok.rel.push (h' := (hh.push emptyDict).push (instObj C hh.objs.size)) (t := tk) (a := hh.objs.size) (o' := .dict []) (get_size_none _) (fun b o q => Heap.get?_push_of_some _ (Heap.get?_push_of_some _ q)) (fun M => .dict (es := []) (n := 0) (Heap.get?_push_of_some _ (Heap.get?_push_size _ rfl)) .nil)
  have ed : ((hh.push emptyDict).push (instObj C hh.objs.size)).get? (hh.objs.size + 1) = some (instObj C hh.objs.size) := by
    have := Heap.get?_push_size (hh.push emptyDict) (o := instObj C hh.objs.size) rfl
    rwa [Heap.size_push] at this
  have st1 : Step A [] ρ ⟨hh, g, d, tk, os⟩ (ρ ++ [hh.objs.size]) ⟨(hh.push emptyDict).push (instObj C hh.objs.size), g, d, tk, os⟩ :=
    ⟨m, fun b o q => ⟨o, Heap.get?_push_of_some _ (Heap.get?_push_of_some _ q)⟩, fun b o _ _ q d _ _ => ⟨o, Heap.get?_push_of_some _ (Heap.get?_push_of_some _ q), d, fun _ => rfl⟩⟩
  have hn : hh.objs.size + 1 ∉ ρ ++ [hh.objs.size] := fun hm => by
    rcases List.mem_append.mp hm with q | q
    · obtain ⟨i, hi⟩ := List.mem_iff_getElem?.mp q
      have hl : i < σ.length := by have := idx_lt hi; have := ok.rel.len; (first | lia | omega)
      obtain ⟨ob, eo⟩ := (ok.rel.objs i _ _ (List.getElem?_eq_getElem hl) hi).live
      have : hh.objs.size + 1 < hh.objs.size := Heap.lt_size eo
      exact absurd this (by (first | lia | omega))
    · rw [List.mem_singleton] at q; exact absurd q (by (first | lia | omega))
  have hself : RepV (ρ ++ [hh.objs.size]) ((hh.push emptyDict).push (instObj C hh.objs.size)) (.inst C σ.length) (.ref (hh.objs.size + 1)) :=
    .inst ed (by rw [← ok.rel.len]; exact List.getElem?_concat_length)
  have ok0 : Okh Z (D + 1) A (ρ ++ [hh.objs.size]) (σ ++ [.dict []]) ⟨(hh.push emptyDict).push (instObj C hh.objs.size), g, d, tk, os⟩ := ok.after st1 rel
  have ok1 : Okh Z D (A.under (.builtin "type.__call__" ⟨.ref C :: us, []⟩)) (ρ ++ [hh.objs.size]) (σ ++ [.dict []]) ⟨(hh.push emptyDict).push (instObj C hh.objs.size), g, d, tk, os⟩ :=
    ⟨by have := ok0.depth; show A.depth + 1 + D < _; (first | lia | omega), by have := ok0.units; show A.units + 1 + 8 * D < _; (first | lia | omega), ok0.handled, by
      obtain ⟨outer, h1, h2⟩ := ok0.frames
      exact ⟨outer, (under_frames A C us).trans h1, h2⟩, rel⟩
  refine codeAny_mono (h _ _ _ _ _ ok1 (.fix _) (.cons hself (r2.mono m))) fun r s' q => ?_
  cases r with
  | error e => exact q
  | ok fl =>
    cases fl with
    | ret x =>
      obtain ⟨ρ', ok', st', rx⟩ := q
      have hn := rx.noneE
      subst hn
      have st2 : Step A [] (ρ ++ [hh.objs.size]) ⟨(hh.push emptyDict).push (instObj C hh.objs.size), g, d, tk, os⟩ ρ' s' := st'.congr (under_frames A C us).symm
      exact ⟨rfl, ρ', ok.after (st1.trans st2) ok'.rel, st1.trans st2, hself.mono st2.mono⟩
    | _ => exact q
end
end Mine

namespace Mine
open PySem PySem.W PyProof.Rows PySem.Calls

section
variable {Z : Zt} {D : Nat} {κ : Ctx} {loc loc' loc₁ loc₂ loc₃ : Loc} {σ σ' σ₁ σ₂ σ₃ σ₄ : List SObj}

/-- a name's store -/
noncomputable def EvN (Z : Zt) (D : Nat) (κ : Ctx) (loc : Loc) (σ : List SObj) (x : Str) (y : SV) (loc' : Loc) (σ' : List SObj) : Prop :=
  ∀ A s ρ env v, Okh Z D A ρ σ s → FrH Z κ env ρ loc s → RepV ρ s.heap y v → wpAny (model Z.prog Z.w) A (storeName env x v) (PostS Z D A κ env ρ s loc' σ' (fun _ _ (_ : Unit) => True)) bot s
theorem EvN.var {x : Str} {y : SV} (hk : κ.scope.names.lookup x = some .local) (hu : Upd loc x y loc') : EvN Z D κ loc σ x y loc' σ := fun _ _ _ _ _ ok f rv => storeLocal ok f hk rv hu
theorem EvN.cell {x : Str} {y : SV} {i : Nat} {y₀ : Option SV} (hk : κ.scope.names.lookup x = some .cell) (hc : κ.cells.lookup x = some i) (hs : σ[i]? = some (.cell y₀)) : EvN Z D κ loc σ x y loc (σ.set i (.cell (some y))) := fun _ _ _ _ _ ok f rv => storeCell ok f hk hc hs rv

/-- a table grows -/
theorem RelH.tab (hZ : Z.Ok) {ρ : List Addr} {s : Shared} {h' : Heap} {t : Nat} {T : TabT} {c' : Addr} {oc : Obj} {vs : Array Value} {tq : Tok} (r : RelH Z ρ σ s) (hT : T ∈ Z.tabs) (k : Heap.ExtBut T.P s.heap h')
    (h1 : h'.get? T.P = some (tabObj #[rawInt T.pos.line, rawInt T.pos.col, .ref c'])) (h2 : h'.get? c' = some oc) (h3 : oc.data = .fields vs) (h4 : vs[1]? = some (.str T.qual tq)) (h5 : ¬ Tracked oc) (h6 : c' ∉ TB) :
    RelH Z ρ σ { s with heap := h', toks := t } ∧ Mono ρ s.heap ρ h' := by
  have hP := r.inTB T hT
  have hPρ : T.P ∉ ρ := fun hm => (r.new _ hm).2 hP
  have m : Mono ρ s.heap ρ h' := .but k fun o e => .inl fun i => by
    obtain ⟨ps, e'⟩ := r.tb T.P hP
    rw [e] at e'; cases e'
    rcases i.2 with q | q
    · exact q rfl
    · exact q hP
  refine ⟨?_, m⟩
  exact {
    len := r.len
    nodup := r.nodup
    new := r.new
    objs := fun i o a e1 e2 => by
      have := r.objs i o a e1 e2
      obtain ⟨ob, eo⟩ := this.live
      exact this.mono m ((k a ob (fun q => hPρ (by rw [← q]; exact List.mem_of_getElem? e2)) eo).trans eo.symm)
    base := fun a o e => k a o (fun q => by rw [q, hZ.hid _ hP] at e; cases e) (r.base a o e)
    tabs := fun T' hT' => by
      by_cases q : T'.P = T.P
      · have := hZ.apart T' hT' T hT q
        subst this
        exact .inr ⟨c', oc, vs, tq, h1, h2, h3, h4, h5, h6⟩
      · obtain ⟨ps, e⟩ := r.tb T'.P (r.inTB T' hT')
        exact (r.tabs T' hT').keep m ((k _ _ q e).trans e.symm)
    inTB := r.inTB
    tb := fun P hP' => by
      by_cases q : P = T.P
      · subst q; exact ⟨_, h1⟩
      · obtain ⟨ps, e⟩ := r.tb P hP'
        exact ⟨ps, k _ _ q e⟩
    gens := r.gens
    os := r.os }

theorem CodeHd_at (hZ : Z.Ok) {ρ : List Addr} {s : Shared} {T : TabT} (r : RelH Z ρ σ s) (hT : T ∈ Z.tabs) : CodeHd s.heap T.c T.P := (hZ.heads T hT).keeps r.base
theorem builtinsAt (hZ : Z.Ok) {ρ : List Addr} {s : Shared} {P : Addr} (r : RelH Z ρ σ s) (hP : P ∈ TB) : s.heap.BuiltinsAt Z.mg P := by
  obtain ⟨bm, ob, b1, b2, b3, b4, b5, b6, b7⟩ := hZ.bmain
  exact ⟨bm, ob, b1, b2, b3, (fun q => by rw [q, hZ.hid _ hP] at b4; cases b4), r.base _ _ b4, b5, b6, b7⟩
theorem main_ne (hZ : Z.Ok) {P : Addr} (hP : P ∈ TB) : mainGlobals ≠ P := fun q => by
  obtain ⟨o, es, ep, e, _⟩ := hZ.g
  rw [q, hZ.hid _ hP] at e; cases e

theorem EvS.fdef (hZ : Z.Ok) {T : TabT} {name : Str} {params : Arguments} {body : List Stmt} {scope : Scope} {cs : List (Str × Nat)} (hT : T ∈ Z.tabs) (hcd : κ.cd = .ref T.c) (hq : κ.name ++ ".<locals>." ++ name = T.qual) (hg : κ.scope.names.lookup name ≠ some .globalExplicit)
    (hd0 : params.defaults = []) (hk0 : params.kw_defaults = []) (ha : ∀ env, annTrees params none env = []) (hcs : ∀ x ∈ cs, ∃ i, x ∈ κ.cells ∧ i = x.2)
    (hcl : ∀ (env : Env) (ρ : List Addr), env.scope = κ.scope → env.cells = addrsOf ρ κ.cells → closureFor scope env = pure (addrsOf ρ cs))
    (hN : EvN Z D κ loc σ name (.clos ⟨name, T.qual, params, body, scope⟩ cs) loc' σ') : EvS Z D κ loc σ (.FunctionDef name params body [] none [] scope none name T.pos) .next loc' σ' := fun A s ρ env ok fr => by
  have hqn : qualnameIn env name name = T.qual := by
    unfold qualnameIn
    rw [fr.kindOf, if_neg (by simpa using hg), fr.qual]
    exact hq
  refine nestDef_K hd0 hk0 (ha env) ?_
  rw [hqn]
  have hP := ok.rel.inTB T hT
  have hcs' : ∀ x ∈ cs, x.2 < ρ.length := fun x hx => by
    obtain ⟨i, h1, h2⟩ := hcs x hx
    exact fr.cells.2 x h1
  have hgl : s.heap.Ns mainGlobals Z.mg := ok.rel.g hZ
  rcases ok.rel.tabs T hT with ht | ⟨c', oc, vs, t, h1, h2, h3, h4, h5, h6⟩
  · refine makeFunction_K (mg := Z.mg) (hcl env ρ fr.scope fr.cells.1) fr.glob hgl (fr.code.trans hcd) (CodeHd_at hZ ok.rel hT) ht trivial rfl (main_ne hZ hP) (builtinsAt hZ ok.rel hP) fun c' ctv doc h' tk hx hge hlt hrec htb => ?_
    obtain ⟨c₂, oc, vs, t, e2, hoc, hd, hv⟩ := hrec
    cases e2
    have hfr : s.heap.get? c' = none := Heap.get?_none_of_le hge
    obtain ⟨g1, g2, g3⟩ := ok.rel.fresh hfr
    obtain ⟨rel, m⟩ := ok.rel.tab hZ (t := tk) hT hx htb hoc hd hv (nt_code hd hv (hZ.quals T hT)) g2
    have rel2 := rel.grow (h' := h'.push (fnMade name T.qual params body scope (addrsOf ρ cs) doc ((Z.mg "__name__").getD .none) c' ctv)) (t := tk) fun b o q => Heap.get?_push_of_some _ q
    have st : Step A [] ρ s ρ { s with heap := h'.push (fnMade name T.qual params body scope (addrsOf ρ cs) doc ((Z.mg "__name__").getD .none) c' ctv), toks := tk } := by
      refine ⟨m.trans (.of_keep fun b o q => Heap.get?_push_of_some _ q) fun a o e => ?_, fun a o e => ?_, fun a o es n e d _ _ => ?_⟩
      · by_cases q : a = T.P
        · subst q; exact ⟨_, htb⟩
        · exact ⟨o, hx a o q e⟩
      · by_cases q : a = T.P
        · subst q; exact ⟨_, Heap.get?_push_of_some _ htb⟩
        · exact ⟨o, Heap.get?_push_of_some _ (hx a o q e)⟩
      · have : a ≠ T.P := fun q => by rw [q, ht] at e; cases e; cases d
        exact ⟨o, Heap.get?_push_of_some _ (hx a o this e), d, fun _ => rfl⟩
    have hsz : h'.get? h'.objs.size = none := get_size_none _
    refine wm (hN A _ ρ env _ (ok.after st rel2) (fr.step st) ?_) fun _ s' ⟨ρ', k', st', f', _⟩ => ⟨ρ', k', st.at.trans st', f', .next⟩
    exact .clos (Heap.get?_push_size _ rfl) rfl rfl hcs' (Heap.get?_push_of_some _ hoc) g2 hd hv (nt_code hd hv (hZ.quals T hT))
  · refine makeFunction_hit (mg := Z.mg) (cv := .ref c') (hcl env ρ fr.scope fr.cells.1) fr.glob hgl (fr.code.trans hcd) (CodeHd_at hZ ok.rel hT) h1 trivial (codeAmong_snoc (pos := T.pos) (c := .ref c') [] trivial rfl) (builtinsAt hZ ok.rel hP) fun ctv doc h' tk hk hsz => ?_
    have hk2 : ∀ b o, s.heap.get? b = some o → (h'.push { cls := .type "function", data := .func (fnX name T.qual params body scope (addrsOf ρ cs) .none .none doc ((Z.mg "__name__").getD .none) none (.ref c') ctv) }).get? b = some o := fun b o q => Heap.get?_push_of_some _ (hk b o q)
    have rel2 := ok.rel.grow (t := tk) hk2
    have st : Step A [] ρ s ρ { s with heap := h'.push { cls := .type "function", data := .func (fnX name T.qual params body scope (addrsOf ρ cs) .none .none doc ((Z.mg "__name__").getD .none) none (.ref c') ctv) }, toks := tk } := .of_keep hk2
    have hfr : s.heap.get? h'.objs.size = none := Heap.get?_none_of_le hsz
    refine wm (hN A _ ρ env _ (ok.after st rel2) (fr.step st) ?_) fun _ s' ⟨ρ', k', st', f', _⟩ => ⟨ρ', k', st.at.trans st', f', .next⟩
    exact .clos (Heap.get?_push_size _ rfl) rfl rfl hcs' (hk2 _ _ h2) h6 h3 h4 h5

-- a bound method's call
theorem CallC.meth {f : Value} {self r : SV} {rs : List SV} (h : CallC Z D (.fix f) (self :: rs) σ r σ') : CallC Z D (.meth f self) rs σ r σ' := by
  intro A s ρ v us ok r1 r2
  apply RepV.elim r1; intro _ _ e r3
  exact method_call e (h A s ρ f _ ok (.fix f) (.cons r3 r2))
end
end Mine

namespace Mine
open PySem PySem.W PyProof.Rows PySem.Calls

theorem entry_iter : entryFor table "iter" = some Builtin.«iter» := entryFor_of_tree (by kernel_rfl)
theorem kind_iter : builtinKind "iter" = none := by decide +kernel
theorem plain_iter : plainId "iter" = true := by decide +kernel
theorem args_iter (a b : Value) : argsOk "iter" ⟨[a, b], []⟩ := by unfold argsOk; kernel_rfl
theorem call_method : typeLookup (.type "method") "__call__" = pure (some (.builtin "method.__call__")) := by rw [typeLookup_type, builtinLookup_eq_fast]; kernel_rfl
theorem owner_ci : Manifest.owners.lookup (String.ofList ['r', 'o', 't', 'a', 'r', 'e', 't', 'i', '_', 'e', 'l', 'b', 'a', 'l', 'l', 'a', 'c'].reverse) = some Manifest.sig_callable_iterator := by kernel_rfl
theorem slot_ci_next : Slot "callable_iterator" "__next__" "callable_iterator.__next__" :=
  .of (owner := "callable_iterator") (n := "__next__") (by rw [typeLookup_type, builtinLookup_eq_fast]; kernel_rfl) (by decide +kernel) (by decide +kernel) (by decide +kernel)
    (by first | exact .inl (by decide +kernel) | exact .inr (by decide +kernel)) (by rw [isSubtype_type]; kernel_rfl)
theorem entry_ci_next : entryFor table "callable_iterator.__next__" = some Builtin.«callable_iterator.__next__» := entryFor_of_tree (by kernel_rfl)
theorem args_ci_next (a : Value) : argsOk "callable_iterator.__next__" ⟨[a], []⟩ := by
  unfold argsOk; rw [signature?_of (id := "callable_iterator.__next__") (n := ['_', '_', 't', 'x', 'e', 'n', '_', '_']) (o := ['r', 'o', 't', 'a', 'r', 'e', 't', 'i', '_', 'e', 'l', 'b', 'a', 'l', 'l', 'a', 'c']) (by kernel_rfl) owner_ci]; kernel_rfl
theorem slot_ci_iter : Slot "callable_iterator" "__iter__" "callable_iterator.__iter__" :=
  .of (owner := "callable_iterator") (n := "__iter__") (by rw [typeLookup_type, builtinLookup_eq_fast]; kernel_rfl) (by decide +kernel) (by decide +kernel) (by decide +kernel)
    (by first | exact .inl (by decide +kernel) | exact .inr (by decide +kernel)) (by rw [isSubtype_type]; kernel_rfl)
theorem args_ci_iter (a : Value) : argsOk "callable_iterator.__iter__" ⟨[a], []⟩ := by
  unfold argsOk; rw [signature?_of (id := "callable_iterator.__iter__") (n := ['_', '_', 'r', 'e', 't', 'i', '_', '_']) (o := ['r', 'o', 't', 'a', 'r', 'e', 't', 'i', '_', 'e', 'l', 'b', 'a', 'l', 'l', 'a', 'c']) (by kernel_rfl) owner_ci]; kernel_rfl
theorem entry_ci_iter : entryFor table "callable_iterator.__iter__" = some Builtin.«dict_keyiterator.__iter__» :=
  entryFor_alias (id' := "dict_keyiterator.__iter__") (by kernel_rfl) (by first | rfl | decide +kernel | (unfold String.splitOn; simp +decide [String.splitOnAux])) (by decide +kernel) (by kernel_rfl)

theorem wpAny_callBorrowed {M : Model} {A : Around} {s : Shared} {f : Value} {pos : List Value} {Q : Value → Shared → Prop} {E : Value → Shared → Prop}
    (h : codeAny M A (.call f ⟨pos, []⟩) (fun r s' => match r with | .ok (.ret v) => Q v s' | .ok _ => False | .error e => E e s') s) : wpAny M A (callBorrowed f pos) Q E s :=
  fun Γ p hΓ => by
    unfold callBorrowed
    show wpCode M (Γ.enter (.call f ⟨pos, []⟩) none p) _ p s
    have := codeAny_mono (R' := fun r s' => Sem.wp M Γ ((fun | .ok (.ret v) => .pure v | .ok _ => .unsupported "internal:call-without-return-value" | .error e => .raise e : Result → Sem Value) r) (fun a _ s' => Q a s') (fun e _ s' => E e s') p s') h fun r s' q => by
      cases r with
      | error e => exact q
      | ok fl => cases fl <;> exact q
    exact this _ p rfl (hΓ.enter _ none p (by intro x; cases x))

section
variable {Z : Zt} {D : Nat} {κ : Ctx} {loc loc' loc₁ loc₂ loc₃ : Loc} {σ σ' σ₁ σ₂ σ₃ σ₄ : List SObj}

theorem Okh.in1 {A : Around} {ρ : List Addr} {s : Shared} (k : Okh Z (D + 1) A ρ σ s) : Okh Z D A.in1 ρ σ s :=
  ⟨by have := k.depth; show A.depth + D < _; omega, by have := k.units; show A.units + 1 + 8 * D < _; omega, k.handled, k.frames, k.rel⟩

theorem Call.iter2 {f : Value} {self : SV} {x : Str} (hx : x = Str.empty) : Call Z D (.fix (.builtin "iter")) [.meth f self, .str x] σ (.obj σ.length) (σ ++ [.callIt (.meth f self)]) := .two fun A s ρ v u ok r1 r2 => by
  subst hx
  apply RepV.elim r2; intro t
  apply RepV.elim r1; intro y a e r3
  refine call_function_entry kind_iter plain_iter entry_iter (args_iter _ _) ?_
  unfold Builtin.«iter»
  refine wpAny_bind (m := someArgs "iter" 1 2 _) (wpAny_pure ?_)
  dsimp only
  refine wpAny_bind (wpAny_specialOf (T := "method") ⟨_, e, rfl⟩ call_method ?_)
  refine wpAny_bind (wpAny_rule ?_)
  refine wpAny_bind (wpAny_newObj_type (wpAny_pure ⟨_, rfl, ?_⟩))
  exact Post.push (o := .callIt (.meth f self)) ok _ (get_size_none _) (fun b o q => Heap.get?_push_of_some _ q) (fun M => .callIt (Heap.get?_push_size _ rfl) (RepV.mono M (.meth e r3))) fun q M => .obj q

theorem Itr.call {j : Nat} {o : SObj} (e : σ[j]? = some o) (ho : (∃ f, o = .callIt f) ∨ o = .callEnd) : Itr Z D (.obj j) σ (.obj j) σ := by
  intro A s ρ v ok r1
  obtain ⟨a, rfl, ha, ro⟩ := ok.rel.at e r1
  have hT : s.TypeIs (.ref a) "callable_iterator" := by
    rcases ho with ⟨f, rfl⟩ | rfl
    · apply RepO.elim ro; intro _ _ e1 _; exact ⟨_, e1, rfl⟩
    · apply RepO.elim ro; intro _ e1 e2 _; exact ⟨_, e1, e2⟩
  refine wpAny_pyIter_slot hT slot_ci_iter (wpAny_call_entry slot_ci_iter hT entry_ci_iter ?_ (args_ci_iter _))
  show wpAny _ _ (ret (.ref a)) _ _ s
  exact wpAny_pure ⟨_, rfl, "callable_iterator", _, hT, slot_ci_next.lookup, Post.now0 ok r1⟩

theorem Nxt.callEnded {j : Nat} (e : σ[j]? = some .callEnd) : Nxt Z D (.obj j) σ none σ := by
  intro A s ρ v ok r1
  obtain ⟨a, rfl, ha, ro⟩ := ok.rel.at e r1
  apply RepO.elim ro; intro o e1 e2 e3
  refine pyNext_stop ⟨_, e1, e2⟩ slot_ci_next entry_ci_next (args_ci_next _) ?_
  unfold Builtin.«callable_iterator.__next__»
  refine wpAny_bind (wpAny_of_eq (a := (Value.ref a, [])) rfl ?_)
  dsimp only
  refine wpAny_bind (wpAny_field e1 e3 (x := .bool true) rfl ?_)
  rw [if_pos (show (Value.bool true == Value.bool true) = true from rfl)]
  refine wpAny_bind (wpAny_rule ?_)
  refine wpAny_bind ?_
  refine stop_raise ok.handled fun e' h' g ht => ⟨ht, ?_⟩
  exact Post.grow ok _ g trivial

theorem borrows {A : Around} {s : Shared} {a : Addr} {b : Addr} {y : Value} {o : Obj} {fd : FuncData} {Q : Bool → Shared → Prop} {E : Value → Shared → Prop} (e : s.heap.get? a = some ⟨.type "method", none, .fields #[.ref b, y], #[]⟩) (e2 : s.heap.get? b = some o) (e3 : o.data = .func fd) (h : Q true s) :
    wpAny (model Z.prog Z.w) A (borrowsExactly (.ref a)) Q E s := by
  unfold borrowsExactly
  refine wpAny_bind (wpAny_load e ?_)
  dsimp only
  rw [if_pos (show (Value.type "method" == Value.type "method") = true from rfl)]
  show wpAny _ _ (load b >>= _) _ _ s
  refine wpAny_bind (wpAny_load e2 ?_)
  rw [e3]
  exact wpAny_pure h

theorem Nxt.call {j b : Nat} {self : SV} {x : Str} {o : Obj} {fd : FuncData} (e : σ[j]? = some (.callIt (.meth (.ref b) self))) (e2 : Z.H0.get? b = some o) (e3 : o.data = .func fd) (hc : CallC Z D (.meth (.ref b) self) [] σ (.str x) σ') (e' : σ'[j]? = some (.callIt (.meth (.ref b) self))) :
    Nxt Z (D + 1) (.obj j) σ (if x = Str.empty then none else some (.str x)) (if x = Str.empty then σ'.set j .callEnd else σ') := by
  intro A s ρ v ok r1
  obtain ⟨a, rfl, ha, ro⟩ := ok.rel.at e r1
  apply RepO.elim ro; intro fv t e1 rf
  have hT : s.TypeIs (.ref a) "callable_iterator" := ⟨_, e1, rfl⟩
  obtain ⟨am, rfl, y, em⟩ : ∃ am, fv = .ref am ∧ ∃ y, s.heap.get? am = some ⟨.type "method", none, .fields #[.ref b, y], #[]⟩ := by
    apply RepV.elim rf; intro _ _ e r; exact ⟨_, rfl, _, e⟩
  have eb := ok.rel.base _ _ e2
  unfold pyNext
  refine wpAny_bind (wpAny_attempt (wpAny_callSpecial?_slot (name := Str.ofString "__next__") hT slot_ci_next (wpAny_call_entry slot_ci_next hT entry_ci_next ?_ (args_ci_next _))))
  unfold Builtin.«callable_iterator.__next__»
  refine wpAny_bind (wpAny_of_eq (a := (Value.ref a, [])) rfl ?_)
  dsimp only
  refine wpAny_bind (wpAny_field e1 rfl (x := .bool false) rfl ?_)
  rw [if_neg (show ¬ (Value.bool false == Value.bool true) = true from Bool.false_ne_true)]
  refine wpAny_bind (wpAny_field e1 rfl (x := .ref am) rfl ?_)
  unfold callOutOfASlot
  refine wpAny_bind (wpAny_attempt (wpAny_bind (borrows em eb e3 ?_)))
  rw [if_pos rfl]
  refine wpAny_callBorrowed ?_
  refine codeAny_mono (hc A.in1 s ρ (.ref am) [] ok.in1 rf .nil) fun r s₁ q => ?_
  cases r with
  | error e => exact q.elim
  | ok fl =>
  cases fl with
  | next => exact q.elim
  | brk => exact q.elim
  | cont => exact q.elim
  | ret rv =>
  obtain ⟨ρ₁, ok₁, st₁, rx⟩ := q
  obtain ⟨tx, rfl⟩ := rx.strE
  have st : Step A [] ρ s ρ₁ s₁ := st₁.congr rfl
  have okA : Okh Z (D + 1) A ρ₁ σ' s₁ := ok.after st ok₁.rel
  have ha' := st₁.mono.idx ha
  apply RepO.elim (ok₁.rel.objs j _ a e' ha'); intro fv' t' e1' rf'
  obtain ⟨am', rfl, y', em'⟩ : ∃ am, fv' = .ref am ∧ ∃ y, s₁.heap.get? am = some ⟨.type "method", none, .fields #[.ref b, y], #[]⟩ := by
    apply RepV.elim rf'; intro _ _ e r; exact ⟨_, rfl, _, e⟩
  have eb' := ok₁.rel.base _ _ e2
  dsimp only
  refine wpAny_bind (wpAny_field e1' rfl (x := .bool false) rfl ?_)
  rw [if_neg (show ¬ (Value.bool false == Value.bool true) = true from Bool.false_ne_true)]
  refine wpAny_bind (wpAny_field e1' rfl (x := .str Str.empty t') rfl ?_)
  refine wpAny_bind (wpAny_holding (wpAny_eqBool_str ?_))
  by_cases hx : x = Str.empty
  · rw [if_pos hx, if_pos hx]
    have : decide (Str.empty = x) = true := by simp [hx]
    rw [this]
    simp only [Bool.not_true, Bool.false_eq_true, if_false]
    refine wpAny_bind (wpAny_rule (wpAny_bind ?_))
    show wpAny _ _ (field (.ref a) 0 >>= _) _ _ s₁
    refine wpAny_bind (wpAny_field e1' rfl (x := .ref am') rfl ?_)
    show wpAny _ _ (slotLetsGo _ (.ref am') _ >>= _) _ _ s₁
    refine wpAny_bind ?_
    unfold slotLetsGo
    dsimp only
    refine wpAny_bind (borrows em' eb' e3 ?_)
    rw [if_pos rfl]
    refine wpAny_pure ?_
    have q1 : (s₁.heap.update a (Obj.mapFields (·.setIfInBounds 0 .none))).get? a = some ⟨.type "callable_iterator", none, .fields #[.none, .str Str.empty t', .bool false], #[]⟩ := Heap.get?_update_self _ e1' rfl
    refine wpAny_bind (wpAny_setField e1' rfl (by simp) ?_)
    have q2 : ((s₁.heap.update a (Obj.mapFields (·.setIfInBounds 0 .none))).update a (Obj.mapFields (·.setIfInBounds 1 .none))).get? a = some ⟨.type "callable_iterator", none, .fields #[.none, .none, .bool false], #[]⟩ := Heap.get?_update_self _ q1 rfl
    refine wpAny_bind (wpAny_setField (s := { s₁ with heap := s₁.heap.update a (Obj.mapFields (·.setIfInBounds 0 .none)) }) q1 rfl (by simp) ?_)
    have q3 : (((s₁.heap.update a (Obj.mapFields (·.setIfInBounds 0 .none))).update a (Obj.mapFields (·.setIfInBounds 1 .none))).update a (Obj.mapFields (·.setIfInBounds 2 (.bool true)))).get? a = some ⟨.type "callable_iterator", none, .fields #[.none, .none, .bool true], #[]⟩ := Heap.get?_update_self _ q2 rfl
    refine wpAny_setField (s := { s₁ with heap := (s₁.heap.update a (Obj.mapFields (·.setIfInBounds 0 .none))).update a (Obj.mapFields (·.setIfInBounds 1 .none)) }) q2 rfl (by simp) ?_
    refine stop_raise ok.handled fun e' h' g ht => wpAny_bind (wpAny_isInstance ht isSubtype_stop (wpAny_pure ?_))
    refine Post.since st ?_
    have hx1 : Heap.ExtBut a s₁.heap (((s₁.heap.update a (Obj.mapFields (·.setIfInBounds 0 .none))).update a (Obj.mapFields (·.setIfInBounds 1 .none))).update a (Obj.mapFields (·.setIfInBounds 2 (.bool true)))) :=
      (((Heap.SameBut.update ..).trans (Heap.SameBut.update ..)).trans (Heap.SameBut.update ..)).extBut
    exact Post.junk okA _ ha' hx1 q3 g (fun q => .callEnd q rfl rfl) fun _ _ => trivial
  · rw [if_neg hx, if_neg hx]
    have : decide (Str.empty = x) = false := by simpa using fun c => hx c.symm
    rw [this]
    simp only [Bool.not_false, if_true]
    exact wpAny_pure ⟨_, rfl, wpAny_pure ⟨ρ₁, okA, st, (show CellRep _ _ (some (.str x)) (some _) from .str _ _)⟩⟩
end
end Mine

namespace Mine
open PySem PySem.W PyProof.Rows PySem.Calls

section
variable {Z : Zt} {D : Nat} {κ κ' : Ctx} {loc loc' loc₁ loc₂ loc₃ : Loc} {σ σ' σ₁ σ₂ σ₃ σ₄ : List SObj}

theorem Itr.listIt {j l i : Nat} (e : σ[j]? = some (.listIt l i)) : Itr Z D (.obj j) σ (.obj j) σ := by
  intro A s ρ v ok r1
  obtain ⟨a, rfl, ha, ro⟩ := ok.rel.at e r1
  apply RepO.elim ro; intro _ _ h1 h2 h3 h4; exact wpAny_pyIter_listiter ⟨_, h1, h2, h3⟩ (Post.now0 ok r1)
theorem Itr.strIt {j i : Nat} {x : Str} (e : σ[j]? = some (.strIt x i)) : Itr Z D (.obj j) σ (.obj j) σ := by
  intro A s ρ v ok r1
  obtain ⟨a, rfl, ha, ro⟩ := ok.rel.at e r1
  apply RepO.elim ro; intro _ _ h1 h2 h3; exact wpAny_pyIter_striter_ascii ⟨_, h1, h2, h3⟩ (Post.now0 ok r1)

theorem FrH.stepX {env : Env} {C : Addr} {A : Around} {ρ ρ' : List Addr} {s s' : Shared} (f : FrH Z κ env ρ loc s) (p : Step A [C] ρ s ρ' s') (h : env.locals ≠ C) : FrH Z κ env ρ' loc s' := by
  obtain ⟨m, h1, h2⟩ := f.ns
  obtain ⟨o, es, ep, e1, e2, _, _⟩ := id h1
  exact { f with
    cells := ⟨by rw [p.mono.addrs f.cells.2]; exact f.cells.1, fun x hx => Nat.lt_of_lt_of_le (f.cells.2 x hx) p.mono.len⟩
    lρ := p.mono.not_mem e1 f.lρ
    ns := ⟨m, ns_data h1 (fun o es n e d => let ⟨o', e', d', _⟩ := p.keepd _ o es n e d f.lρ (by simpa using h); ⟨o', e', d'⟩), h2.mono p.mono⟩ }

inductive LoopC (Z : Zt) (D : Nat) (κ : Ctx) (target elt : Expr) (it : SV) (d : Nat) : Nat → Loc → List SObj → List SV → List SObj → List SV → Prop
  | stop {n : Nat} {loc : Loc} {σ σ' : List SObj} {xs : List SV} : Nxt Z D it σ none σ' → LoopC Z D κ target elt it d n loc σ xs σ' xs
  | turn {n : Nat} {loc loc₁ : Loc} {σ σ₁ σ₂ σ₃ σ' : List SObj} {xs ys : List SV} {y r : SV} : Nxt Z D it σ (some y) σ₁ → EvA Z D κ loc σ₁ target y loc₁ σ₂ → EvE Z D κ loc₁ σ₂ elt r σ₃ → σ₃[d]? = some (.list xs) → xs.length ≤ sizeLine →
      LoopC Z D κ target elt it d n loc₁ (σ₃.set d (.list (xs ++ [r]))) (xs ++ [r]) σ' ys → LoopC Z D κ target elt it d (n + 1) loc σ xs σ' ys

theorem comp_loop {elt target iter : Expr} {scope : Scope} {pos : Pos} {it : SV} {d n : Nat} {xs ys : List SV} (h : LoopC Z D κ target elt it d n loc σ xs σ' ys) (ht : ∀ it v, letOwnedTupleGo target it v = pure ()) {A : Around} {s : Shared} {ρ : List Addr} {env : Env} {vi va : Value}
    (ok : Okh Z D A ρ σ s) (fr : FrH Z κ env ρ loc s) (ri : RepV ρ s.heap it vi) (ra : RepV ρ s.heap (.obj d) va) {R : Result → Shared → Prop} (hR : ∀ s' ρ' loc', Okh Z D A ρ' σ' s' → Step A [env.locals] ρ s ρ' s' → FrH Z κ env ρ' loc' s' → R (.ok .next) s') :
    codeAny (model Z.prog Z.w) A (.compLoop (.ListComp elt [⟨target, iter, [], 0⟩] scope pos) 0 vi va env) R s := by
  refine codeAny_compLoop_list (fun k s₁ => ∃ loc₁ σ₁ ρ₁ xs₁, LoopC Z D κ target elt it d k loc₁ σ₁ xs₁ σ' ys ∧ Okh Z D A ρ₁ σ₁ s₁ ∧ Step A [env.locals] ρ s ρ₁ s₁ ∧ FrH Z κ env ρ₁ loc₁ s₁ ∧ RepV ρ₁ s₁.heap it vi ∧ RepV ρ₁ s₁.heap (.obj d) va) ?_ n
    ⟨loc, σ, ρ, xs, h, ok, .refl _ _ _ _, fr, ri, ra⟩ (ht vi)
  rintro k s₁ ⟨loc₁, σ₁, ρ₁, xs₁, hl, ok₁, st₁, fr₁, ri₁, ra₁⟩
  cases hl with
  | stop hn =>
    refine wpAny_mono (hn A s₁ ρ₁ vi ok₁ ri₁) (fun b s₂ ⟨ρ₂, k₂, st₂, r₂⟩ => ?_) fun _ _ x => x.elim
    cases b with
    | some v => exact r₂.elim
    | none => exact hR s₂ ρ₂ _ k₂ (st₁.trans st₂.at) (fr₁.step st₂)
  | turn hn ha he hd hlen hl =>
    refine wpAny_mono (hn A s₁ ρ₁ vi ok₁ ri₁) (fun b s₂ ⟨ρ₂, k₂, st₂, r₂⟩ => ?_) fun _ _ x => x.elim
    cases b with
    | none => exact r₂.elim
    | some v =>
      refine wpAny_mono (ha A s₂ ρ₂ env v k₂ (fr₁.step st₂) r₂) (fun _ s₃ ⟨ρ₃, k₃, st₃, f₃, _⟩ => ?_) fun _ _ x => x.elim
      refine wpAny_mono (he A s₃ ρ₃ env k₃ f₃) (fun w s₄ ⟨ρ₄, k₄, st₄, r₄⟩ => ?_) fun _ _ x => x.elim
      have m2 := st₂.mono
      have m3 := st₃.mono
      have m4 := st₄.mono
      have ra₄ := ((ra₁.mono m2).mono m3).mono m4
      have := Call.append (Z := Z) (D := D) (x := _) hd hlen A s₄ ρ₄ [.builtin "list.append", va, w] k₄ (.cons (.fix _) (.cons ra₄ (.cons r₄ .nil)))
      refine wpAny_mono this (fun _ s₅ ⟨ρ₅, k₅, st₅, _⟩ => ?_) fun _ _ x => x.elim
      exact ⟨_, Nat.lt_succ_self _, _, _, ρ₅, _, hl, k₅, ((((st₁.trans st₂.at).trans st₃).trans st₄.at).trans st₅.at), (f₃.step st₄).step st₅, (((ri₁.mono m2).mono m3).mono m4).mono st₅.mono, ra₄.mono st₅.mono⟩

/-- the frame of a comprehension -/
structure CompOk (κ κ' : Ctx) (scope : Scope) : Prop where
  clos : ∀ (env : Env) (ρ : List Addr), env.scope = κ.scope → env.cells = addrsOf ρ κ.cells → closureFor scope env = pure (addrsOf ρ κ'.cells)
  sub : ∀ x ∈ κ'.cells, ∃ y ∈ κ.cells, y.2 = x.2
  cell : ∀ y ∈ scope.names, y.2 ≠ .cell
  kind : scope.kind = .function
  names : ∀ y ∈ scope.names, y.2 = .local → scope.names.lookup y.1 = some .local
  rel : ∀ env : Env, env.scope = κ.scope → relabel scope env = κ'.scope
  name : κ'.name = κ.name
  cd : κ'.cd = κ.cd

theorem comp_block {elt target iter : Expr} {scope : Scope} {pos : Pos} {it : SV} {n : Nat} {ys : List SV} (K : CompOk κ κ' scope) (hself : Itr Z D it (σ ++ [.list []]) it (σ ++ [.list []])) (h : LoopC Z D κ' target elt it σ.length n [] (σ ++ [.list []]) [] σ' ys) (ht : ∀ it v, letOwnedTupleGo target it v = pure ())
    {A : Around} {s : Shared} {ρ : List Addr} {env : Env} {vi : Value} (ok : Okh Z D A ρ σ s) (fr : FrH Z κ env ρ loc s) (ri : RepV ρ s.heap it vi) {RR : Value → Addr → Result → Shared → Prop}
    (hR : ∀ (acc : Value) (C : Addr) s' ρ' m, Okh Z D A ρ' σ' s' → Step A [C] ρ s ρ' s' → FrH Z κ env ρ' loc s' → RepV ρ' s'.heap (.obj σ.length) acc → env.locals ≠ C → s.heap.get? C = none → s'.heap.Ns C m → C ∉ ρ' → C ∉ TB → Z.H0.get? C = none → RR acc C (.ok .next) s') :
    wpAny (model Z.prog Z.w) A (newList []) (fun acc s₃ => wpAny (model Z.prog Z.w) A (newFunctionEnv scope env.globals (addrsOf ρ κ'.cells) [] env.qual none .none (some env)) (fun cenv s₄ =>
      codeAny (model Z.prog Z.w) A (.compStart (.ListComp elt [⟨target, iter, [], 0⟩] scope pos) 0 vi acc { cenv with scope := relabel scope env }) (RR acc cenv.locals) s₄) bot s₃) bot s := by
  refine wpAny_newObj_type ?_
  have p1 : Post Z D A [] ρ s (σ ++ [.list []]) (isV (.obj σ.length)) (.ref s.heap.objs.size) { s with heap := s.heap.push { cls := .type "list", data := .seq ([] : List Value).toArray } } :=
    Post.push (o := .list []) ok _ (get_size_none _) (fun b o q => Heap.get?_push_of_some _ q) (fun M => .list (Heap.get?_push_size _ rfl) .nil) fun q M => .obj q
  obtain ⟨ρ₁, ok₁, st₁, ra⟩ := p1
  refine wpAny_newFunctionEnv K.cell (by intro y hy; simp at hy) (fun h₁ hns hsb => ?_) K.kind
  generalize hs1 : ({ s with heap := s.heap.push { cls := .type "list", data := .seq ([] : List Value).toArray } } : Shared) = s₁ at *
  have hC : s₁.heap.get? s₁.heap.objs.size = none := get_size_none _
  have hk : ∀ b o, s₁.heap.get? b = some o → h₁.get? b = some o := fun b o e => hsb.extBut b o (fun q => by rw [q, hC] at e; cases e) (Heap.get?_push_of_some _ e)
  obtain ⟨f1, f2, f3⟩ := ok₁.rel.fresh hC
  have st2 : Step A [] ρ₁ s₁ ρ₁ { s₁ with heap := h₁, toks := s₁.toks + ([] : List (Str × Value)).length } := .of_keep hk
  have ok₂ := ok₁.after st2 (ok₁.rel.grow hk)
  have hsub : ∀ x ∈ κ'.cells, x.2 < ρ.length := fun x hx => by
    obtain ⟨y, hy, e⟩ := K.sub x hx
    rw [← e]; exact fr.cells.2 y hy
  have fr₂ : FrH Z κ env ρ₁ loc { s₁ with heap := h₁, toks := s₁.toks + ([] : List (Str × Value)).length } := (fr.step st₁).step st2
  have cfr : FrH Z κ' (compEnvC scope (addrsOf ρ κ'.cells) s₁.heap.objs.size env) ρ₁ [] { s₁ with heap := h₁, toks := s₁.toks + ([] : List (Str × Value)).length } :=
    ⟨K.rel env fr.scope, by rw [← K.rel env fr.scope]; exact K.kind, fr.glob, fr.bltn, fr.code.trans K.cd.symm, by rw [K.name]; exact fr.qual, rfl, ⟨by rw [st₁.mono.addrs hsub]; rfl, fun x hx => Nat.lt_of_lt_of_le (hsub x hx) st₁.mono.len⟩, f1, f2, f3, ⟨_, hns, fun x z e => by simp at e⟩⟩
  have hLC : env.locals ≠ s₁.heap.objs.size := fun q => by
    obtain ⟨m, ⟨o, es, ep, e1, _⟩, _⟩ := (fr.step st₁).ns
    rw [q, hC] at e1; cases e1
  have hCs : s.heap.get? s₁.heap.objs.size = none := by
    cases q : s.heap.get? s₁.heap.objs.size with
    | none => rfl
    | some o =>
      obtain ⟨o', e'⟩ := st₁.live _ _ q
      rw [hC] at e'; cases e'
  have fin : ∀ s', s' = ({ s₁ with heap := h₁, toks := s₁.toks + ([] : List (Str × Value)).length } : Shared) → ∀ vi s₃ ρ₃, Okh Z D A ρ₃ (σ ++ [.list []]) s₃ → Step A [] ρ₁ s' ρ₃ s₃ → RepV ρ₃ s₃.heap it vi →
      codeAny (model Z.prog Z.w) A (.compLoop (.ListComp elt [⟨target, iter, [], 0⟩] scope pos) 0 vi (.ref s.heap.objs.size) (compEnvC scope (addrsOf ρ κ'.cells) s₁.heap.objs.size env)) (RR (.ref s.heap.objs.size) s₁.heap.objs.size) s₃ := by
    rintro s' rfl vi s₃ ρ₃ ok₃ st3 ri₃
    refine comp_loop h ht ok₃ (cfr.step st3) ri₃ ((ra.mono st2.mono).mono st3.mono) fun s' ρ' loc' ok' st' fr' => ?_
    have stA : Step A [s₁.heap.objs.size] ρ s ρ' s' := (((st₁.trans st2).trans st3).at).trans st'
    obtain ⟨m, n1, _⟩ := fr'.ns
    exact hR _ _ s' ρ' m ok' stA (fr.stepX stA hLC) (((ra.mono st2.mono).mono st3.mono).mono st'.mono) hLC hCs n1 fr'.lρ f2 f3
  have ri₂ := (ri.mono st₁.mono).mono st2.mono
  refine codeAny_compStart_list (fin _ rfl _ _ ρ₁ ok₂ (.refl _ _ _ _) ri₂) ?_
  refine wpAny_mono (hself A _ ρ₁ vi ok₂ ri₂) (fun vi' s₃ ⟨ρ₃, ok₃, st3, ri₃⟩ => ?_) fun _ _ x => x.elim
  exact fin _ rfl _ _ ρ₃ ok₃ st3 ri₃

theorem PostS.dropC {A : Around} {env : Env} {ρ ρ' : List Addr} {s s' : Shared} {h' : Heap} {C : Addr} {X : List Addr} {m : Str → Option Value} (ok : Okh Z D A ρ σ s) (ok' : Okh Z D A ρ' σ' s') (st : Step A (C :: X) ρ s ρ' s') (fr : FrH Z κ env ρ' loc s') (hLC : env.locals ≠ C) (hC : s.heap.get? C = none) (n : s'.heap.Ns C m) (h1 : C ∉ ρ') (h2 : C ∉ TB) (h3 : Z.H0.get? C = none) (hs : Heap.SameBut C s'.heap h') :
    Okh Z D A ρ' σ' { s' with heap := h' } ∧ Step A X ρ s ρ' { s' with heap := h' } ∧ FrH Z κ env ρ' loc { s' with heap := h' } ∧ Mono ρ' s'.heap ρ' h' := by
  obtain ⟨o, es, ep, e1, e2, _, _⟩ := n
  have hd : ∀ q, s'.heap.get? C = some q → ∃ es n, q.data = .dict es n := fun q e => by rw [e1] at e; cases e; exact ⟨_, _, e2⟩
  have rel := ok'.rel.but (t := s'.toks) hs.extBut h1 h3 h2 hd
  have mo : Mono ρ' s'.heap ρ' h' := .but hs.extBut fun q e => .inl fun i => let ⟨es, n, d⟩ := hd q e; i.1 es n d
  have hne : ∀ b o, s.heap.get? b = some o → b ≠ C := fun b o e q => by rw [q, hC] at e; cases e
  have stX : Step A X ρ s ρ' { s' with heap := h' } := by
    refine ⟨⟨st.mono.pre, fun b o e hb hi => hs.extBut b o (hne b o e) (st.mono.keep b o e hb hi)⟩, fun b o e => ?_, fun b o es n e d hb hx => ?_⟩
    · obtain ⟨o', e'⟩ := st.live b o e
      exact ⟨o', hs.extBut b o' (hne b o e) e'⟩
    · obtain ⟨o', e', d', k⟩ := st.keepd b o es n e d hb (by simpa using ⟨hne b o e, hx⟩)
      exact ⟨o', hs.extBut b o' (hne b o e) e', d', k⟩
  refine ⟨⟨ok'.depth, ok'.units, ok'.handled, ?_, rel⟩, stX, ?_, mo⟩
  · obtain ⟨outer, q1, q2⟩ := ok.frames
    obtain ⟨outer', q1', q2'⟩ := ok'.frames
    rw [q1] at q1'; cases q1'
    refine ⟨outer, q1, fun e he => ?_⟩
    obtain ⟨L, p1, p2, p3, p4, p5, oL, eL, nL, p6, p7⟩ := q2' e he
    obtain ⟨L', r1, _, _, _, _, oL', _, _, r6, _⟩ := q2 e he
    rw [p1] at r1; cases r1
    exact ⟨L, p1, p2, p3, p4, p5, oL, eL, nL, hs.extBut L oL (hne L oL' r6) p6, p7⟩
  · obtain ⟨m', n1, n2⟩ := fr.ns
    exact { fr with ns := ⟨m', n1.sameBut hs hLC, n2.mono mo⟩ }

theorem EvE.comp {elt target iter : Expr} {scope : Scope} {pos : Pos} {v it : SV} {n : Nat} {ys : List SV} (K : CompOk κ κ' scope) (h1 : EvE Z D κ loc σ iter v σ₁) (h2 : Itr Z D v σ₁ it σ₂) (hself : Itr Z D it (σ₂ ++ [.list []]) it (σ₂ ++ [.list []]))
    (h : LoopC Z D κ' target elt it σ₂.length n [] (σ₂ ++ [.list []]) [] σ' ys) (ht : ∀ it v, letOwnedTupleGo target it v = pure () := by intro _ _; rfl) (hs : ∀ env x, foldedSetIterable iter env x = pure x := by intro _ _; rfl) :
    EvE Z D κ loc σ (.ListComp elt [⟨target, iter, [], 0⟩] scope pos) (.obj σ₂.length) σ' := fun A s ρ env ok fr => by
  rw [eval_ListComp]
  refine wpAny_comprehension_free (use := none) rfl (hs env) (K.clos env ρ fr.scope fr.cells.1) K.kind K.names
    (wm (h1 A s ρ env ok fr) fun xv s₁ ⟨ρ₁, k₁, st₁, r₁⟩ => wm (h2 A s₁ ρ₁ xv k₁ r₁) fun vi s₂ ⟨ρ₂, k₂, st₂, r₂⟩ => ?_)
  have hsub : ∀ x ∈ κ'.cells, x.2 < ρ.length := fun x hx => by
    obtain ⟨y, hy, e⟩ := K.sub x hx
    rw [← e]; exact fr.cells.2 y hy
  have e1 : addrsOf ρ κ'.cells = addrsOf ρ₂ κ'.cells := by
    have := (st₁.trans st₂).mono.addrs hsub
    exact this.symm
  rw [e1]
  refine comp_block K hself h ht k₂ ((fr.step st₁).step st₂) r₂ fun acc C s' ρ' m ok' st' fr' ra hLC hC n1 c1 c2 c3 => ?_
  refine ⟨m, n1, fun h' hs' => ?_⟩
  obtain ⟨okX, stX, frX, mo⟩ := PostS.dropC (X := []) k₂ ok' st' fr' hLC hC n1 c1 c2 c3 hs'
  exact ⟨ρ', okX, (st₁.trans st₂).trans stX, ra.mono mo⟩
end
end Mine

namespace Mine
open PySem PySem.W PyProof.Rows PySem.Calls

/-- the same value, objects counted elsewhere -/
inductive RenV (es : List Nat) : SV → SV → Prop
  | none : RenV es .none .none
  | bool (b : Bool) : RenV es (.bool b) (.bool b)
  | int (i : Int) : RenV es (.int i) (.int i)
  | str (x : Str) : RenV es (.str x) (.str x)
  | fix (v : Value) : RenV es (.fix v) (.fix v)
  | obj {i j : Nat} : es[i]? = some j → RenV es (.obj i) (.obj j)
  | inst {C : Addr} {i j : Nat} : es[i]? = some j → RenV es (.inst C i) (.inst C j)
  | tup {xs ys : List SV} : xs.length = ys.length → (∀ (i : Nat) (x y : SV), xs[i]? = some x → ys[i]? = some y → RenV es x y) → RenV es (.tup xs) (.tup ys)
  | clos {k : CloT} {cs ds : List (Str × Nat)} : cs.length = ds.length → (∀ (i : Nat) (x y : Str × Nat), cs[i]? = some x → ds[i]? = some y → x.1 = y.1 ∧ es[x.2]? = some y.2) → RenV es (.clos k cs) (.clos k ds)
  | meth {f : Value} {x y : SV} : RenV es x y → RenV es (.meth f x) (.meth f y)
  | mtch (x : Str) (i j : Nat) : RenV es (.mtch x i j) (.mtch x i j)
  | rng (n : Int) : RenV es (.rng n) (.rng n)
  | slice (lo hi st : Option Int) : RenV es (.slice lo hi st) (.slice lo hi st)
noncomputable def RenVs (es : List Nat) (xs ys : List SV) : Prop := xs.length = ys.length ∧ ∀ (i : Nat) (x y : SV), xs[i]? = some x → ys[i]? = some y → RenV es x y
theorem RenVs.nil {es : List Nat} : RenVs es [] [] := ⟨rfl, fun i x y e => by simp at e⟩
theorem RenVs.cons {es : List Nat} {x y : SV} {xs ys : List SV} (r : RenV es x y) (rs : RenVs es xs ys) : RenVs es (x :: xs) (y :: ys) := by
  refine ⟨by simp [rs.1], fun i a b e1 e2 => ?_⟩
  cases i with
  | zero => simp at e1 e2; subst e1; subst e2; exact r
  | succ i => simp at e1 e2; exact rs.2 i a b e1 e2
theorem RenV.tups {es : List Nat} {xs ys : List SV} (r : RenVs es xs ys) : RenV es (.tup xs) (.tup ys) := .tup r.1 r.2
/-- what names no object stays as it is -/
theorem RenV.closed {es : List Nat} {x : SV} (l : SV.Lt 0 x) : RenV es x x := by
  generalize hn : (0 : Nat) = n at l
  induction l with
  | none => exact .none
  | bool b => exact .bool b
  | int i => exact .int i
  | str x => exact .str x
  | fix v => exact .fix v
  | obj h => (first | lia | omega)
  | inst h => (first | lia | omega)
  | tup _ ih => exact .tup rfl fun i x y e1 e2 => by rw [e1] at e2; cases e2; exact ih i x e1
  | @clos k cs h =>
    cases cs with
    | nil => exact .clos rfl fun i x y e => by simp at e
    | cons c r => have := h c (.head _); (first | lia | omega)
  | meth _ ih => exact .meth ih
  | mtch x i j => exact .mtch x i j
  | rng k => exact .rng k
  | slice => exact .slice _ _ _
theorem RenVs.closed {es : List Nat} {xs : List SV} (l : ∀ x ∈ xs, SV.Lt 0 x) : RenVs es xs xs :=
  ⟨rfl, fun i x y e1 e2 => by rw [e1] at e2; cases e2; exact .closed (l x (List.mem_of_getElem? e1))⟩

/-- two lists of addresses that agree along a table -/
noncomputable def Along (es : List Nat) (ρ ρ₂ : List Addr) : Prop := ∀ (k j : Nat), es[k]? = some j → ∃ a, ρ[k]? = some a ∧ ρ₂[j]? = some a
theorem Along.addrs {es : List Nat} {ρ ρ₂ : List Addr} (E : Along es ρ ρ₂) : ∀ {cs ds : List (Str × Nat)}, cs.length = ds.length → (∀ (i : Nat) (x y : Str × Nat), cs[i]? = some x → ds[i]? = some y → x.1 = y.1 ∧ es[x.2]? = some y.2) → addrsOf ρ cs = addrsOf ρ₂ ds
  | [], [], _, _ => rfl
  | [], d :: ds, h, _ => by simp at h
  | c :: cs, [], h, _ => by simp at h
  | c :: cs, d :: ds, h, hp => by
    have ih := E.addrs (cs := cs) (ds := ds) (by simpa using h) fun i x y e1 e2 => hp (i + 1) x y (by simpa using e1) (by simpa using e2)
    obtain ⟨h1, h2⟩ := hp 0 c d rfl rfl
    obtain ⟨a, e1, e2⟩ := E _ _ h2
    show (c.1, ρ.getD c.2 0) :: addrsOf ρ cs = (d.1, ρ₂.getD d.2 0) :: addrsOf ρ₂ ds
    rw [ih, h1, List.getD_eq_getElem?_getD, List.getD_eq_getElem?_getD, e1, e2]
theorem Along.to {es : List Nat} {ρ ρ₂ : List Addr} (E : Along es ρ ρ₂) {i j : Nat} {a : Addr} (q : es[i]? = some j) (e : ρ[i]? = some a) : ρ₂[j]? = some a :=
  let ⟨_, e1, e2⟩ := E i j q; e2.trans (e1.symm.trans e)
theorem Along.back {es : List Nat} {ρ ρ₂ : List Addr} (E : Along es ρ ρ₂) {i j : Nat} {a : Addr} (q : es[i]? = some j) (e : ρ₂[j]? = some a) : ρ[i]? = some a :=
  let ⟨_, e1, e2⟩ := E i j q; e1.trans (e2.symm.trans e)
theorem some_at {α : Type} {xs : List α} {i n : Nat} {y : α} {ys : List α} (e : ys[i]? = some y) (h : ys.length = n) (h2 : xs.length = n) : ∃ x, xs[i]? = some x :=
  ⟨_, List.getElem?_eq_getElem (h2.trans h.symm ▸ (List.getElem?_eq_some_iff.mp e).1)⟩
theorem RepV.fwd {es : List Nat} {ρ ρ₂ : List Addr} {h : Heap} (E : Along es ρ ρ₂) {x y : SV} {v : Value} (r : RepV ρ h x v) (n : RenV es x y) : RepV ρ₂ h y v := by
  induction n generalizing v with
  | none => apply RepV.elim r; exact .none
  | bool b => apply RepV.elim r; exact .bool b
  | int i => apply RepV.elim r; intro t; exact .int i t
  | str x => apply RepV.elim r; intro t; exact .str x t
  | fix u => apply RepV.elim r; exact .fix u
  | obj q => apply RepV.elim r; intro a e; exact .obj (E.to q e)
  | inst q => apply RepV.elim r; intro a d e ei; exact .inst e (E.to q ei)
  | tup hl2 q ih =>
    apply RepV.elim r; intro vs a m e hl g
    refine .tup e (hl2.symm.trans hl) fun i y v e1 e2 => ?_
    obtain ⟨x, ex⟩ := some_at e1 hl2.symm rfl
    exact ih i x y ex e1 (g i x v ex e2)
  | clos hl2 q =>
    apply RepV.elim r; intro a c o oc tp pm doc an vs t e hc hd hcs ec hcc hdc hv hq
    refine .clos e hc (by rw [← E.addrs hl2 q]; exact hd) (fun y hy => ?_) ec hcc hdc hv hq
    obtain ⟨i, hi⟩ := List.mem_iff_getElem?.mp hy
    obtain ⟨x, ex⟩ := some_at hi hl2.symm rfl
    obtain ⟨a, _, e2⟩ := E _ _ (q i x y ex hi).2
    exact idx_lt e2
  | meth q ih => apply RepV.elim r; intro v a e r; exact .meth e (ih r)
  | mtch x i j => apply RepV.elim r; intro _ _ _ _ _ _ _ e e2; exact .mtch e e2
  | slice => apply RepV.elim r; intro _ _ _ _ e p1 p2 p3; exact .slice e p1 p2 p3
  | rng => apply RepV.elim r; intro _ _ _ _ e; exact .rng e
theorem RepV.bwd {es : List Nat} {ρ ρ₂ : List Addr} {h : Heap} (E : Along es ρ ρ₂) {x y : SV} {v : Value} (r : RepV ρ₂ h y v) (n : RenV es x y) : RepV ρ h x v := by
  induction n generalizing v with
  | none => apply RepV.elim r; exact .none
  | bool b => apply RepV.elim r; exact .bool b
  | int i => apply RepV.elim r; intro t; exact .int i t
  | str x => apply RepV.elim r; intro t; exact .str x t
  | fix u => apply RepV.elim r; exact .fix u
  | obj q => apply RepV.elim r; intro a e; exact .obj (E.back q e)
  | inst q => apply RepV.elim r; intro a d e ei; exact .inst e (E.back q ei)
  | tup hl2 q ih =>
    apply RepV.elim r; intro vs a m e hl g
    refine .tup e (hl2.trans hl) fun i x v e1 e2 => ?_
    obtain ⟨y, ey⟩ := some_at e1 hl2 rfl
    exact ih i x y e1 ey (g i y v ey e2)
  | clos hl2 q =>
    apply RepV.elim r; intro a c o oc tp pm doc an vs t e hc hd hcs ec hcc hdc hv hq
    refine .clos e hc (by rw [E.addrs hl2 q]; exact hd) (fun x hx => ?_) ec hcc hdc hv hq
    obtain ⟨i, hi⟩ := List.mem_iff_getElem?.mp hx
    obtain ⟨y, ey⟩ := some_at hi hl2 rfl
    obtain ⟨a, e1, _⟩ := E _ _ (q i x y hi ey).2
    exact idx_lt e1
  | meth q ih => apply RepV.elim r; intro v a e r; exact .meth e (ih r)
  | mtch x i j => apply RepV.elim r; intro _ _ _ _ _ _ _ e e2; exact .mtch e e2
  | slice => apply RepV.elim r; intro _ _ _ _ e p1 p2 p3; exact .slice e p1 p2 p3
  | rng => apply RepV.elim r; intro _ _ _ _ e; exact .rng e
theorem RepVs.fwd {es : List Nat} {ρ ρ₂ : List Addr} {h : Heap} (E : Along es ρ ρ₂) {xs ys : List SV} {vs : List Value} (r : RepVs ρ h xs vs) (n : RenVs es xs ys) : RepVs ρ₂ h ys vs :=
  ⟨n.1 ▸ r.1, fun i y v e1 e2 => by
    have hi : i < xs.length := by have := (List.getElem?_eq_some_iff.mp e1).1; have := n.1; (first | lia | omega)
    exact (r.2 i _ v (List.getElem?_eq_getElem hi) e2).fwd E (n.2 i _ y (List.getElem?_eq_getElem hi) e1)⟩
theorem RepVs.bwd {es : List Nat} {ρ ρ₂ : List Addr} {h : Heap} (E : Along es ρ ρ₂) {xs ys : List SV} {vs : List Value} (r : RepVs ρ₂ h ys vs) (n : RenVs es xs ys) : RepVs ρ h xs vs :=
  ⟨n.1.trans r.1, fun i x v e1 e2 => by
    have hi : i < ys.length := by have := (List.getElem?_eq_some_iff.mp e1).1; have := n.1; (first | lia | omega)
    exact (r.2 i _ v (List.getElem?_eq_getElem hi) e2).bwd E (n.2 i x _ e1 (List.getElem?_eq_getElem hi))⟩

inductive RenD (es : List Nat) : List (Str × SV) → List (Str × SV) → Prop
  | nil : RenD es [] []
  | cons {k : Str} {x y : SV} {fs gs : List (Str × SV)} : RenV es x y → RenD es fs gs → RenD es ((k, x) :: fs) ((k, y) :: gs)
theorem RepD.fwd {es : List Nat} {ρ ρ₂ : List Addr} {h : Heap} (E : Along es ρ ρ₂) {ds : List DictEntry} {fs gs : List (Str × SV)} (r : RepD ρ h ds fs) (n : RenD es fs gs) : RepD ρ₂ h ds gs := by
  induction r generalizing gs with
  | nil => cases n; exact .nil
  | cons e rv _ ih => cases n with | cons q1 q2 => exact .cons e (rv.fwd E q1) (ih q2)
theorem RepD.bwd {es : List Nat} {ρ ρ₂ : List Addr} {h : Heap} (E : Along es ρ ρ₂) {ds : List DictEntry} {fs gs : List (Str × SV)} (r : RepD ρ₂ h ds gs) (n : RenD es fs gs) : RepD ρ h ds fs := by
  induction r generalizing fs with
  | nil => cases n; exact .nil
  | cons e rv _ ih => cases n with | cons q1 q2 => exact .cons e (rv.bwd E q1) (ih q2)

inductive RenO (es : List Nat) : SObj → SObj → Prop
  | list {xs ys : List SV} : RenVs es xs ys → RenO es (.list xs) (.list ys)
  | dict {fs gs : List (Str × SV)} : RenD es fs gs → RenO es (.dict fs) (.dict gs)
  | cell {x y : SV} : RenV es x y → RenO es (.cell (some x)) (.cell (some y))
  | cell0 : RenO es (.cell none) (.cell none)
  | listIt {l l' i : Nat} : es[l]? = some l' → RenO es (.listIt l i) (.listIt l' i)
  | revIt {l l' : Nat} {i : Int} : es[l]? = some l' → RenO es (.revIt l i) (.revIt l' i)
  | rangeIt (x n : Int) : RenO es (.rangeIt x n) (.rangeIt x n)
  | strIt (x : Str) (i : Nat) : RenO es (.strIt x i) (.strIt x i)
  | callIt {x y : SV} : RenV es x y → RenO es (.callIt x) (.callIt y)
  | callEnd : RenO es .callEnd .callEnd
  | set (xs : List Int) : RenO es (.set xs) (.set xs)
  | junk : RenO es .junk .junk
theorem RepO.fwd {es : List Nat} {ρ ρ₂ : List Addr} {h : Heap} (E : Along es ρ ρ₂) {x y : SObj} {a : Addr} (r : RepO ρ h x a) (n : RenO es x y) : RepO ρ₂ h y a := by
  cases n with
  | list q => apply RepO.elim r; intro _ _ e1 r; exact .list e1 (r.fwd E q)
  | dict q => apply RepO.elim r; intro _ _ e1 r; exact .dict e1 (r.fwd E q)
  | cell q =>
    apply RepO.elim r; intro v _ e1 e2 r
    cases v with
    | none => exact r.elim
    | some v => exact .cell e1 e2 (show CellRep _ _ (some _) (some v) from RepV.fwd E r q)
  | cell0 =>
    apply RepO.elim r; intro v _ e1 e2 r
    cases v with
    | none => exact .cell e1 e2 trivial
    | some v => exact r.elim
  | listIt q => apply RepO.elim r; intro _ _ e1 e2 e3 e4; exact .listIt e1 e2 e3 (E.to q e4)
  | revIt q => apply RepO.elim r; intro _ _ e1 e2 e3 e4; exact .revIt e1 e2 e3 (E.to q e4)
  | rangeIt => apply RepO.elim r; intro e1; exact .rangeIt e1
  | strIt => apply RepO.elim r; intro _ _ e1 e2 e3; exact .strIt e1 e2 e3
  | callIt q => apply RepO.elim r; intro _ _ e1 r; exact .callIt e1 (r.fwd E q)
  | callEnd => apply RepO.elim r; intro _ e1 e2 e3; exact .callEnd e1 e2 e3
  | set => apply RepO.elim r; intro _ _ _ _ e1 e2 e3 e4 e5 e6; exact .set e1 e2 e3 e4 e5 e6
  | junk => apply RepO.elim r; intro _ e1 e2; exact .junk e1 e2
theorem RepO.bwd {es : List Nat} {ρ ρ₂ : List Addr} {h : Heap} (E : Along es ρ ρ₂) {x y : SObj} {a : Addr} (r : RepO ρ₂ h y a) (n : RenO es x y) : RepO ρ h x a := by
  cases n with
  | list q => apply RepO.elim r; intro _ _ e1 r; exact .list e1 (r.bwd E q)
  | dict q => apply RepO.elim r; intro _ _ e1 r; exact .dict e1 (r.bwd E q)
  | cell q =>
    apply RepO.elim r; intro v _ e1 e2 r
    cases v with
    | none => exact r.elim
    | some v => exact .cell e1 e2 (show CellRep _ _ (some _) (some v) from RepV.bwd E r q)
  | cell0 =>
    apply RepO.elim r; intro v _ e1 e2 r
    cases v with
    | none => exact .cell e1 e2 trivial
    | some v => exact r.elim
  | listIt q => apply RepO.elim r; intro _ _ e1 e2 e3 e4; exact .listIt e1 e2 e3 (E.back q e4)
  | revIt q => apply RepO.elim r; intro _ _ e1 e2 e3 e4; exact .revIt e1 e2 e3 (E.back q e4)
  | rangeIt => apply RepO.elim r; intro e1; exact .rangeIt e1
  | strIt => apply RepO.elim r; intro _ _ e1 e2 e3; exact .strIt e1 e2 e3
  | callIt q => apply RepO.elim r; intro _ _ e1 r; exact .callIt e1 (r.bwd E q)
  | callEnd => apply RepO.elim r; intro _ e1 e2 e3; exact .callEnd e1 e2 e3
  | set => apply RepO.elim r; intro _ _ _ _ e1 e2 e3 e4 e5 e6; exact .set e1 e2 e3 e4 e5 e6
  | junk => apply RepO.elim r; intro _ e1 e2; exact .junk e1 e2

/-- objects found again in a longer list -/
inductive Emb (es : List Nat) (τ : List SObj) : List SObj → List Nat → Prop
  | nil : Emb es τ [] []
  | cons {o o₂ : SObj} {σ : List SObj} {j : Nat} {js : List Nat} : τ[j]? = some o₂ → RenO es o o₂ → Emb es τ σ js → Emb es τ (o :: σ) (j :: js)
theorem Emb.length {es : List Nat} {τ σ : List SObj} {js : List Nat} (e : Emb es τ σ js) : σ.length = js.length := by
  induction e with
  | nil => rfl
  | cons _ _ _ ih => simp [ih]
theorem Emb.get {es : List Nat} {τ σ : List SObj} {js : List Nat} (e : Emb es τ σ js) : ∀ {k j : Nat} {o : SObj}, σ[k]? = some o → js[k]? = some j → ∃ o₂, τ[j]? = some o₂ ∧ RenO es o o₂ := by
  induction e with
  | nil => intro k j o h; simp at h
  | cons e1 e2 _ ih =>
    intro k j o h1 h2
    cases k with
    | zero => simp at h1 h2; subst h1; subst h2; exact ⟨_, e1, e2⟩
    | succ k => simp at h1 h2; exact ih h1 h2

section
variable {Z : Zt} {D : Nat}
theorem CallC.frame {es : List Nat} {σ σ' σ₂ σ₂' : List SObj} {f f₂ r r₂ : SV} {args args₂ : List SV} (h : CallC Z D f args σ r σ') (hnd : es.Nodup) (hin : Emb es σ₂ σ es) (hf : RenV es f f₂) (ha : RenVs es args args₂) (hle : σ₂.length ≤ σ₂'.length)
    (hout : Emb (es ++ List.range' σ₂.length (σ₂'.length - σ₂.length)) σ₂' σ' (es ++ List.range' σ₂.length (σ₂'.length - σ₂.length))) (hrest : ∀ j, j < σ₂.length → j ∉ es → σ₂'[j]? = σ₂[j]?)
    (hr : RenV (es ++ List.range' σ₂.length (σ₂'.length - σ₂.length)) r r₂) : CallC Z D f₂ args₂ σ₂ r₂ σ₂' := by
  intro A s ρ₂ v vs ok₂ rf ra
  have l2 := ok₂.rel.len
  have hk : ∀ k j, es[k]? = some j → j < σ₂.length ∧ k < σ.length := fun k j e => by
    have hkl : k < σ.length := by rw [hin.length]; exact (List.getElem?_eq_some_iff.mp e).1
    obtain ⟨o₂, e2, _⟩ := hin.get (List.getElem?_eq_getElem hkl) e
    exact ⟨(List.getElem?_eq_some_iff.mp e2).1, hkl⟩
  have E : Along es (es.map fun j => ρ₂.getD j 0) ρ₂ := fun k j e => by
    have hj := (hk k j e).1
    refine ⟨ρ₂.getD j 0, by rw [List.getElem?_map, e]; rfl, ?_⟩
    rw [List.getD_eq_getElem?_getD, List.getElem?_eq_getElem (by (first | lia | omega))]
    rfl
  have sub : ∀ a ∈ es.map fun j => ρ₂.getD j 0, a ∈ ρ₂ := fun a hm => by
    obtain ⟨k, hk'⟩ := List.mem_iff_getElem?.mp hm
    rw [List.getElem?_map] at hk'
    obtain ⟨j, ej, rfl⟩ := Option.map_eq_some_iff.mp hk'
    obtain ⟨a, _, e2⟩ := E k j ej
    have : ρ₂.getD j 0 = a := by rw [List.getD_eq_getElem?_getD, e2]; rfl
    rw [this]; exact List.mem_of_getElem? e2
  generalize hρ : (es.map fun j => ρ₂.getD j 0) = ρ at E sub
  have lρ : ρ.length = σ.length := by rw [← hρ, List.length_map, hin.length]
  have rel : RelH Z ρ σ s := {
    len := lρ
    nodup := by
      rw [List.nodup_iff_pairwise_ne, List.pairwise_iff_getElem]
      intro i j hi hj hij q
      have hi' : i < es.length := by rw [← hin.length, ← lρ]; exact hi
      have hj' : j < es.length := by rw [← hin.length, ← lρ]; exact hj
      obtain ⟨a, e1, e2⟩ := E i _ (List.getElem?_eq_getElem hi')
      obtain ⟨b, e3, e4⟩ := E j _ (List.getElem?_eq_getElem hj')
      rw [List.getElem?_eq_getElem hi] at e1
      rw [List.getElem?_eq_getElem hj] at e3
      cases e1; cases e3
      rw [← q] at e4
      have := nodup_idx ok₂.rel.nodup e2 e4
      have := (List.getElem_inj (h₀ := hi') (h₁ := hj') hnd).mp this
      (first | lia | omega)
    new := fun a hm => ok₂.rel.new a (sub a hm)
    objs := fun i o a e1 e2 => by
      have hi' : i < es.length := by rw [← hin.length]; exact (List.getElem?_eq_some_iff.mp e1).1
      obtain ⟨b, e3, e4⟩ := E i _ (List.getElem?_eq_getElem hi')
      rw [e2] at e3; cases e3
      obtain ⟨o₂, e5, e6⟩ := hin.get e1 (List.getElem?_eq_getElem hi')
      exact (ok₂.rel.objs _ _ _ e5 e4).bwd E e6
    base := ok₂.rel.base
    tabs := ok₂.rel.tabs
    inTB := ok₂.rel.inTB
    tb := ok₂.rel.tb
    gens := ok₂.rel.gens
    os := ok₂.rel.os }
  have ok : Okh Z D A ρ σ s := ⟨ok₂.depth, ok₂.units, ok₂.handled, let ⟨outer, q1, q2⟩ := ok₂.frames; ⟨outer, q1, fun e he => let ⟨L, p1, p2, p3, p4⟩ := q2 e he; ⟨L, p1, p2, fun hm => p3 (sub L hm), p4⟩⟩, rel⟩
  refine codeAny_mono (h A s ρ v vs ok (rf.bwd E hf) (ra.bwd E ha)) fun rr s' q => ?_
  cases rr with
  | error e => exact q
  | ok fl =>
  cases fl with
  | next => exact q
  | brk => exact q
  | cont => exact q
  | ret x =>
  obtain ⟨ρ', ok', st, rx⟩ := q
  obtain ⟨t, rfl, ht⟩ := st.mono.pre
  have lt : t.length = σ₂'.length - σ₂.length := by
    have h1 := ok'.rel.len
    have h2 := hout.length
    have h3 := hin.length
    simp only [List.length_append, List.length_range'] at h1 h2
    (first | lia | omega)
  have ll : (es ++ List.range' σ₂.length (σ₂'.length - σ₂.length)).length = σ'.length := hout.length.symm
  have E' : Along (es ++ List.range' σ₂.length (σ₂'.length - σ₂.length)) (ρ ++ t) (ρ₂ ++ t) := fun k j e => by
    by_cases hk' : k < es.length
    · rw [List.getElem?_append_left hk'] at e
      obtain ⟨a, e1, e2⟩ := E k j e
      exact ⟨a, by rw [List.getElem?_append_left (idx_lt e1)]; exact e1, by rw [List.getElem?_append_left (idx_lt e2)]; exact e2⟩
    · rw [List.getElem?_append_right (by (first | lia | omega))] at e
      have h1 := (List.getElem?_eq_some_iff.mp e).1
      rw [List.length_range'] at h1
      rw [List.getElem?_range' h1] at e
      cases e
      have hkt : k - es.length < t.length := by (first | lia | omega)
      have hl3 := hin.length
      refine ⟨t[k - es.length], ?_, ?_⟩
      · rw [List.getElem?_append_right (by (first | lia | omega)), lρ, hl3]
        exact List.getElem?_eq_getElem hkt
      · rw [List.getElem?_append_right (by (first | lia | omega))]
        have : σ₂.length + 1 * (k - es.length) - ρ₂.length = k - es.length := by (first | lia | omega)
        rw [this]
        exact List.getElem?_eq_getElem hkt
  have m₂ : Mono ρ₂ s.heap (ρ₂ ++ t) s'.heap := ⟨⟨t, rfl, ht⟩, fun b o e hb hi => st.mono.keep b o e (hb.imp (fun z hm => z (sub b hm)) id) hi⟩
  have st₂ : Step A [] ρ₂ s (ρ₂ ++ t) s' := ⟨m₂, st.live, fun b o es n e d hb hx => st.keepd b o es n e d (fun hm => hb (sub b hm)) hx⟩
  have nph : ∀ a ∈ ρ₂, a ∉ phi A := fun a hm hp => by
    obtain ⟨outer, q1, q2⟩ := ok₂.frames
    rw [phi_of q1] at hp
    obtain ⟨e, he, ef⟩ := List.mem_filterMap.mp hp
    obtain ⟨L, p1, _, p3, _⟩ := q2 e he
    rw [p1] at ef; cases ef
    exact p3 hm
  have kept : ∀ (i : Nat) (o : SObj) (a : Addr), σ₂[i]? = some o → ρ₂[i]? = some a → a ∉ ρ → s'.heap.get? a = s.heap.get? a := fun i o a e1 e2 hn => by
    have ro := ok₂.rel.objs i o a e1 e2
    obtain ⟨ob, eo, tr⟩ := ro.tracked
    rw [eo]
    by_cases hdi : ∃ es n, ob.data = .dict es n
    · obtain ⟨ds, n, hd⟩ := hdi
      obtain ⟨o', e', _, k⟩ := st.keepd a ob ds n eo hd hn (by simp)
      rw [e', k (nph a (List.mem_of_getElem? e2))]
    · exact st.mono.keep a ob eo (.inl hn) ⟨fun ds n hd => hdi ⟨ds, n, hd⟩, .inr (ok₂.rel.new a (List.mem_of_getElem? e2)).2⟩
  have rel₂ : RelH Z (ρ₂ ++ t) σ₂' s' := {
    len := by rw [List.length_append]; (first | lia | omega)
    nodup := by
      have hnt := ok'.rel.nodup
      rw [List.nodup_append] at hnt ⊢
      refine ⟨ok₂.rel.nodup, hnt.2.1, fun a ha b hb q => ?_⟩
      subst q
      obtain ⟨i, hi⟩ := List.mem_iff_getElem?.mp ha
      obtain ⟨ob, eo⟩ := (ok₂.rel.objs i _ a (List.getElem?_eq_getElem (by have := idx_lt hi; (first | lia | omega))) hi).live
      rw [ht a hb] at eo; cases eo
    new := fun a hm => by
      rcases List.mem_append.mp hm with q | q
      · exact ok₂.rel.new a q
      · exact ok'.rel.new a (List.mem_append_right _ q)
    objs := fun i o a e1 e2 => by
      by_cases hk' : ∃ k : Nat, (es ++ List.range' σ₂.length (σ₂'.length - σ₂.length))[k]? = some i
      · obtain ⟨k, ek⟩ := hk'
        have hkl : k < σ'.length := by rw [← ll]; exact (List.getElem?_eq_some_iff.mp ek).1
        obtain ⟨o₂, e5, e6⟩ := hout.get (List.getElem?_eq_getElem hkl) ek
        rw [e1] at e5; cases e5
        obtain ⟨b, e3, e4⟩ := E' k i ek
        rw [e2] at e4; cases e4
        exact (ok'.rel.objs k _ a (List.getElem?_eq_getElem hkl) e3).fwd E' e6
      · have hi2 : i < σ₂'.length := (List.getElem?_eq_some_iff.mp e1).1
        have hil : i < σ₂.length := by
          apply Decidable.byContradiction
          intro hge
          refine hk' ⟨es.length + (i - σ₂.length), ?_⟩
          rw [List.getElem?_append_right (by (first | lia | omega)), Nat.add_sub_cancel_left, List.getElem?_range' (by (first | lia | omega))]
          congr 1
          (first | lia | omega)
        have hne : i ∉ es := fun hm => by
          obtain ⟨k, ek⟩ := List.mem_iff_getElem?.mp hm
          exact hk' ⟨k, by rw [List.getElem?_append_left (List.getElem?_eq_some_iff.mp ek).1]; exact ek⟩
        rw [hrest i hil hne] at e1
        rw [List.getElem?_append_left (by (first | lia | omega))] at e2
        refine (ok₂.rel.objs i o a e1 e2).mono m₂ (kept i o a e1 e2 fun hm => ?_)
        rw [← hρ] at hm
        obtain ⟨j, hj, ej⟩ := List.mem_map.mp hm
        obtain ⟨k, ek⟩ := List.mem_iff_getElem?.mp hj
        have hjl := (hk k j ek).1
        have : ρ₂[j]? = some a := by
          rw [← ej, List.getD_eq_getElem?_getD, List.getElem?_eq_getElem (by (first | lia | omega))]; rfl
        exact hne (nodup_idx ok₂.rel.nodup e2 this ▸ hj)
    base := ok'.rel.base
    tabs := ok'.rel.tabs
    inTB := ok'.rel.inTB
    tb := ok'.rel.tb
    gens := ok'.rel.gens
    os := ok'.rel.os }
  exact ⟨ρ₂ ++ t, ok₂.after st₂ rel₂, st₂, rx.fwd E' hr⟩
end
end Mine

namespace Mine
open PySem PySem.W PyProof.Rows PySem.Calls

/-- the tables of the defs that make defs -/
noncomputable def tabs39 : List TabT := [⟨87, 83, ⟨105, 4, 110, 55⟩, "_digits2int.<locals>.inner"⟩, ⟨80, 76, ⟨90, 4, 99, 28⟩, "_int2digits.<locals>.inner"⟩, ⟨52, 48, ⟨50, 4, 54, 74⟩, "_str_to_int_inner.<locals>.inner"⟩, ⟨176, 172, ⟨201, 4, 204, 40⟩, "_law_reader.<locals>.read"⟩]

/-- the world the law starts in -/
structure W39 (Z : Zt) : Prop where
  ok : Z.Ok
  K : Z.K = hd.heap_39 Z.w.params
  names : ∀ x v, nsIn (hd.heap_39 Z.w.params) mainGlobals x = some v → Z.mg x = v
  free : ∀ x v, Z.mg x = none → bootBuiltins x = some v → x ≠ "__name__" → Z.mb x = some v
  tabs : Z.tabs = tabs39

theorem isFn_of {Z : Zt} (W : W39 Z) {a c : Addr} {fd : FuncData} {body : List Stmt} {oc cc : Value} {od cod : Option Addr} {sl csl : Array (Option Value)} {vs : Array Value} {t : Tok} (h1 : (hd.heap_39 Z.w.params).lookup a = some ⟨oc, od, .func fd, sl⟩) (h2 : fd.body = .stmts body) (hc : fd.code = .ref c)
    (h3 : (hd.heap_39 Z.w.params).lookup c = some ⟨cc, cod, .fields vs, csl⟩) (h4 : vs[1]? = some (.str fd.qualname t)) (h5 : fd.scope.isCoroutine = false) (h6 : fd.scope.isGenerator = false) (h7 : fd.scope.kind = .function) (h8 : fd.globals = mainGlobals) (h9 : fd.builtins = builtinsNs) (h10 : fd.closure = []) : IsFn Z a fd body :=
  ⟨⟨_, W.ok.k _ _ (by rw [W.K]; exact h1), rfl⟩, ⟨c, _, vs, t, hc, W.ok.k _ _ (by rw [W.K]; exact h3), rfl, h4⟩, h2, h5, h6, h7, h8, h9, h10⟩

variable {Z : Zt} {D : Nat} {σ : List SObj}
end Mine

namespace Mine
open PySem PySem.W PyProof.Rows PySem.Calls

/-- where the text's names lead -/
noncomputable def gtab : List (Str × Value) := [("int_divmod", .ref 102), ("int_from_string", .ref 60), ("IPV4_RE", .ref 114), ("_law_least", .ref 198), ("_law_words", .ref 184), ("_law_sum", .ref 224), ("_law_product", .ref 217), ("_law_down", .ref 238), ("_law_up", .ref 245),
  ("_law_comes_back", .ref 250), ("_law_has_a_row", .ref 255), ("_law_row", .ref 205), ("_law_units", .ref 191), ("_law_reader", .ref 177), ("_law_cells", .ref 170), ("_law_file", .ref 210), ("_law_refused", .ref 231), ("_netrclex", .ref 159),
  ("is_HDN", .ref 121), ("unmatched", .ref 109), ("_divmod_pos", .ref 95), ("_digits2int", .ref 88), ("_int2digits", .ref 81), ("_div2n1n", .ref 67), ("_str_to_int_inner", .ref 53), ("compute_powers", .ref 46), ("_DIV_LIMIT", .int 4000 329)]
noncomputable def btab : List (Str × Value) := [("len", .builtin "len"), ("str", .type "str"), ("range", .type "range"), ("abs", .builtin "abs"), ("int", .type "int"), ("iter", .builtin "iter"), ("reversed", .type "reversed"), ("divmod", .builtin "divmod"), ("list", .type "list"), ("set", .type "set"), ("ZeroDivisionError", .type "ZeroDivisionError")]
theorem gv_all {Z : Zt} (W : W39 Z) : ∀ p ∈ gtab, Z.mg p.1 = some p.2 := by
  intro p hp
  unfold gtab at hp
  simp only [List.mem_cons, List.not_mem_nil, or_false] at hp
  rcases hp with rfl | rfl | rfl | rfl | rfl | rfl | rfl | rfl | rfl | rfl | rfl | rfl | rfl | rfl | rfl | rfl | rfl | rfl | rfl | rfl | rfl | rfl | rfl | rfl | rfl | rfl | rfl <;> exact W.names _ _ (by kernel_rfl)

theorem lookup_mem {α : Type} : ∀ {l : List (Str × α)} {x : Str} {v : α}, l.lookup x = some v → (x, v) ∈ l
  | [], x, v, h => by simp at h
  | (y, w) :: r, x, v, h => by
    rw [List.lookup_cons] at h
    cases hb : x == y with
    | true =>
      rw [hb] at h
      have h : some w = some v := h
      cases h
      have : x = y := by simpa using hb
      subst this
      exact List.mem_cons_self
    | false => rw [hb] at h; exact List.mem_cons_of_mem _ (lookup_mem h)
theorem bv_all {Z : Zt} (W : W39 Z) : ∀ p ∈ btab, Z.mg p.1 = none ∧ Z.mb p.1 = some p.2 := by
  intro p hp
  unfold btab at hp
  simp only [List.mem_cons, List.not_mem_nil, or_false] at hp
  have go : ∀ (x : Str) (v : Value), nsIn (hd.heap_39 Z.w.params) mainGlobals x = some none → bootBuiltins x = some v → x ≠ "__name__" → Z.mg x = none ∧ Z.mb x = some v := fun x v h1 h2 h3 =>
    have h := W.names x none h1
    ⟨h, W.free x v h h2 h3⟩
  rcases hp with rfl | rfl | rfl | rfl | rfl | rfl | rfl | rfl | rfl | rfl | rfl <;> exact go _ _ (by kernel_rfl) (by kernel_rfl) (by decide)

noncomputable def fns : List Addr := [46, 53, 60, 67, 74, 81, 88, 95, 102, 109, 121, 135, 142, 149, 159, 170, 177, 184, 191, 198, 205, 210, 217, 224, 231, 238, 245, 250, 255, 260]
theorem keep_all {Z : Zt} (W : W39 Z) : ∀ a ∈ fns, KeepSV Z (.fix (.ref a)) := by
  intro a ha
  refine .inr (.inr ?_)
  rw [W.K]
  unfold fns at ha
  simp only [List.mem_cons, List.not_mem_nil, or_false] at ha
  rcases ha with rfl | rfl | rfl | rfl | rfl | rfl | rfl | rfl | rfl | rfl | rfl | rfl | rfl | rfl | rfl | rfl | rfl | rfl | rfl | rfl | rfl | rfl | rfl | rfl | rfl | rfl | rfl | rfl | rfl | rfl <;> kernel_rfl

section
variable {Z : Zt} {D : Nat} {κ κ' : Ctx} {loc loc' loc₁ loc₂ loc₃ : Loc} {σ σ' σ₁ σ₂ σ₃ σ₄ : List SObj}
theorem EvE.gl (W : W39 Z) {x : Str} {pos : Pos} {v : Value} (hk : κ.scope.names.lookup x = some .globalImplicit) (hg : gtab.lookup x = some v) (hd : (x == ("__debug__" : Str)) = false) : EvE Z D κ loc σ (.Name x pos) (.fix v) σ :=
  EvE.glob W.ok hk (gv_all W _ (lookup_mem hg)) hd
theorem EvE.bt (W : W39 Z) {x : Str} {pos : Pos} {v : Value} (hk : κ.scope.names.lookup x = some .globalImplicit) (hg : btab.lookup x = some v) (hd : (x == ("__debug__" : Str)) = false) : EvE Z D κ loc σ (.Name x pos) (.fix v) σ :=
  let h := bv_all W _ (lookup_mem hg)
  EvE.bltn W.ok hk h.1 h.2 hd
theorem EvE.lim (W : W39 Z) {pos : Pos} (hk : κ.scope.names.lookup (Str.ofString "_DIV_LIMIT") = some .globalImplicit) : EvE Z D κ loc σ (.Name "_DIV_LIMIT" pos) (.int 4000) σ := fun A s ρ env ok fr =>
  wm (EvE.gl W hk (v := .int 4000 329) rfl rfl A s ρ env ok fr) fun v s' ⟨ρ', k, st, r⟩ => ⟨ρ', k, st, by cases r; exact .int _ _⟩
theorem KeepSV.fn (W : W39 Z) {a : Addr} (h : a ∈ fns) : KeepSV Z (.fix (.ref a)) := keep_all W a h

/-- a frame's names -/
structure Cx (κ : Ctx) (ns : List (Str × NameKind)) (cs : List (Str × Nat)) : Prop where
  names : κ.scope.names = ns
  cells : κ.cells = cs
section
variable {ns : List (Str × NameKind)} {cs : List (Str × Nat)}
theorem EvE.xvar {x : Str} {pos : Pos} {r : SV} (C : Cx κ ns cs) (hk : ns.lookup x = some .local) (hx : loc.lookup x = some r) (hd : (x == ("__debug__" : Str)) = false) : EvE Z D κ loc σ (.Name x pos) r σ := .var (C.names ▸ hk) hx hd
theorem EvE.xcell {x : Str} {pos : Pos} {i : Nat} {y : SV} (C : Cx κ ns cs) (hk : ns.lookup x = some .cell) (hc : cs.lookup x = some i) (hs : σ[i]? = some (.cell (some y))) (hd : (x == ("__debug__" : Str)) = false) : EvE Z D κ loc σ (.Name x pos) y σ := .cellv (C.names ▸ hk) (C.cells ▸ hc) hs hd
theorem EvE.xfree {x : Str} {pos : Pos} {i : Nat} {y : SV} (C : Cx κ ns cs) (hk : ns.lookup x = some .free) (hc : cs.lookup x = some i) (hs : σ[i]? = some (.cell (some y))) (hd : (x == ("__debug__" : Str)) = false) (hn : (x == ("__classdict__" : Str)) = false) : EvE Z D κ loc σ (.Name x pos) y σ := .freev (C.names ▸ hk) (C.cells ▸ hc) hs hd hn
theorem EvE.xgl (W : W39 Z) (C : Cx κ ns cs) {x : Str} {pos : Pos} {v : Value} (hk : ns.lookup x = some .globalImplicit) (hg : gtab.lookup x = some v) (hd : (x == ("__debug__" : Str)) = false) : EvE Z D κ loc σ (.Name x pos) (.fix v) σ := .gl W (C.names ▸ hk) hg hd
theorem EvE.xbt (W : W39 Z) (C : Cx κ ns cs) {x : Str} {pos : Pos} {v : Value} (hk : ns.lookup x = some .globalImplicit) (hg : btab.lookup x = some v) (hd : (x == ("__debug__" : Str)) = false) : EvE Z D κ loc σ (.Name x pos) (.fix v) σ := .bt W (C.names ▸ hk) hg hd
theorem EvA.xvar {x : Str} {pos : Pos} {y : SV} (C : Cx κ ns cs) (hk : ns.lookup x = some .local) (hu : Upd loc x y loc') : EvA Z D κ loc σ (.Name x pos) y loc' σ := .var (C.names ▸ hk) hu
theorem EvA.xcell {x : Str} {pos : Pos} {y : SV} {i : Nat} {y₀ : Option SV} (C : Cx κ ns cs) (hk : ns.lookup x = some .cell) (hc : cs.lookup x = some i) (hs : σ[i]? = some (.cell y₀)) : EvA Z D κ loc σ (.Name x pos) y loc (σ.set i (.cell (some y))) := .cell (C.names ▸ hk) (C.cells ▸ hc) hs
theorem EvS.xaug {x : Str} {npos pos : Pos} {op : Operator} {e : Expr} {a b r : SV} (C : Cx κ ns cs) (hk : ns.lookup x = some .local) (hx : loc.lookup x = some a) (h1 : EvE Z D κ loc σ e b σ₁) (h2 : OpI Z D op a b σ₁ r σ₂) (hu : Upd loc x r loc') :
    EvS Z D κ loc σ (.AugAssign (.Name x npos) op e pos) .next loc' σ₂ := .augName (C.names ▸ hk) hx h1 h2 hu
end
-- forms for the walk: what a walk asks, each under a name that nothing unfolds
structure XE (Z : Zt) (D : Nat) (κ : Ctx) (loc : Loc) (σ : List SObj) (e : Expr) (r : SV) (σ' : List SObj) : Prop where
  h : EvE Z D κ loc σ e r σ'
structure XT (Z : Zt) (D : Nat) (κ : Ctx) (loc : Loc) (σ : List SObj) (e : Expr) (c : Bool) (σ' : List SObj) : Prop where
  h : EvT Z D κ loc σ e c σ'
structure XL (Z : Zt) (D : Nat) (κ : Ctx) (loc : Loc) (σ : List SObj) (es : List Expr) (rs : List SV) (σ' : List SObj) : Prop where
  h : EvL Z D κ loc σ es rs σ'
structure XP (Z : Zt) (D : Nat) (κ : Ctx) (loc : Loc) (σ : List SObj) (p : Option Expr) (k : Option Int) : Prop where
  h : EvP Z D κ loc σ p k
structure XA (Z : Zt) (D : Nat) (κ : Ctx) (loc : Loc) (σ : List SObj) (t : Expr) (x : SV) (loc' : Loc) (σ' : List SObj) : Prop where
  h : EvA Z D κ loc σ t x loc' σ'
structure XAs (Z : Zt) (D : Nat) (κ : Ctx) (loc : Loc) (σ : List SObj) (ts : List Expr) (xs : List SV) (loc' : Loc) (σ' : List SObj) : Prop where
  h : EvAs Z D κ loc σ ts xs loc' σ'
structure XS (Z : Zt) (D : Nat) (κ : Ctx) (loc : Loc) (σ : List SObj) (st : Stmt) (f : AF) (loc' : Loc) (σ' : List SObj) : Prop where
  h : EvS Z D κ loc σ st f loc' σ'
structure XSs (Z : Zt) (D : Nat) (κ : Ctx) (loc : Loc) (σ : List SObj) (sts : List Stmt) (f : AF) (loc' : Loc) (σ' : List SObj) : Prop where
  h : EvSs Z D κ loc σ sts f loc' σ'
structure XB (Z : Zt) (D : Nat) (op : Operator) (a b : SV) (σ : List SObj) (r : SV) (σ' : List SObj) : Prop where
  h : OpB Z D op a b σ r σ'
structure XI (Z : Zt) (D : Nat) (op : Operator) (a b : SV) (σ : List SObj) (r : SV) (σ' : List SObj) : Prop where
  h : OpI Z D op a b σ r σ'
structure XC (Z : Zt) (D : Nat) (op : CmpOp) (a b : SV) (σ : List SObj) (c : Bool) (σ' : List SObj) : Prop where
  h : OpC Z D op a b σ (.bool c) σ'
structure XU (Z : Zt) (D : Nat) (op : UnaryOp) (a : SV) (σ : List SObj) (r : SV) (σ' : List SObj) : Prop where
  h : OpU Z D op a σ r σ'
structure XTr (Z : Zt) (D : Nat) (a : SV) (σ : List SObj) (c : Bool) (σ' : List SObj) : Prop where
  h : Tru Z D a σ c σ'
structure XG (Z : Zt) (D : Nat) (a b : SV) (σ : List SObj) (r : SV) (σ' : List SObj) : Prop where
  h : GetI Z D a b σ r σ'
structure XSI (Z : Zt) (D : Nat) (a b c : SV) (σ σ' : List SObj) : Prop where
  h : SetI Z D a b c σ σ'
structure XM (Z : Zt) (D : Nat) (a : SV) (name : Str) (σ : List SObj) (f : SV) (first : List SV) (σ' : List SObj) : Prop where
  h : Meth Z D a name σ f first σ'
structure XGA (Z : Zt) (D : Nat) (a : SV) (name : Str) (σ : List SObj) (r : SV) (σ' : List SObj) : Prop where
  h : GetA Z D a name σ r σ'
structure XSA (Z : Zt) (D : Nat) (a : SV) (name : Str) (b : SV) (σ σ' : List SObj) : Prop where
  h : SetA Z D a name b σ σ'
structure XK (Z : Zt) (D : Nat) (f : SV) (args : List SV) (σ : List SObj) (r : SV) (σ' : List SObj) : Prop where
  h : Call Z D f args σ r σ'
structure XIt (Z : Zt) (D : Nat) (a : SV) (σ : List SObj) (r : SV) (σ' : List SObj) : Prop where
  h : Itr Z D a σ r σ'
structure XN (Z : Zt) (D : Nat) (it : SV) (σ : List SObj) (x : Option SV) (σ' : List SObj) : Prop where
  h : Nxt Z D it σ x σ'

section
variable {ns : List (Str × NameKind)} {cs : List (Str × Nat)}
-- expressions
theorem XE.int {i : Int} {k : Nat} {pos : Pos} : XE Z D κ loc σ (.Constant (.int i) k pos) (.int i) σ := ⟨.int⟩
theorem XE.str {x : Str} {k : Nat} {pos : Pos} : XE Z D κ loc σ (.Constant (.str x) k pos) (.str x) σ := ⟨.cstr⟩
theorem XE.bool {b : Bool} {k : Nat} {pos : Pos} : XE Z D κ loc σ (.Constant (.bool b) k pos) (.bool b) σ := ⟨.cbool⟩
theorem XE.none {k : Nat} {pos : Pos} : XE Z D κ loc σ (.Constant .none k pos) .none σ := ⟨.cnone⟩
theorem XE.var {x : Str} {pos : Pos} {r : SV} (C : Cx κ ns cs) (hk : ns.lookup x = some .local) (hx : loc.lookup x = some r) (hd : (x == ("__debug__" : Str)) = false) : XE Z D κ loc σ (.Name x pos) r σ := ⟨.xvar C hk hx hd⟩
theorem XE.cell {x : Str} {pos : Pos} {i : Nat} {y : SV} (C : Cx κ ns cs) (hk : ns.lookup x = some .cell) (hc : cs.lookup x = some i) (hs : σ[i]? = some (.cell (some y))) (hd : (x == ("__debug__" : Str)) = false) : XE Z D κ loc σ (.Name x pos) y σ := ⟨.xcell C hk hc hs hd⟩
theorem XE.free {x : Str} {pos : Pos} {i : Nat} {y : SV} (C : Cx κ ns cs) (hk : ns.lookup x = some .free) (hc : cs.lookup x = some i) (hs : σ[i]? = some (.cell (some y))) (hd : (x == ("__debug__" : Str)) = false) (hn : (x == ("__classdict__" : Str)) = false) : XE Z D κ loc σ (.Name x pos) y σ := ⟨.xfree C hk hc hs hd hn⟩
theorem XE.gl (W : W39 Z) (C : Cx κ ns cs) {x : Str} {pos : Pos} {v : Value} (hk : ns.lookup x = some .globalImplicit) (hg : gtab.lookup x = some v) (hd : (x == ("__debug__" : Str)) = false) : XE Z D κ loc σ (.Name x pos) (.fix v) σ := ⟨.xgl W C hk hg hd⟩
theorem XE.bt (W : W39 Z) (C : Cx κ ns cs) {x : Str} {pos : Pos} {v : Value} (hk : ns.lookup x = some .globalImplicit) (hg : btab.lookup x = some v) (hd : (x == ("__debug__" : Str)) = false) : XE Z D κ loc σ (.Name x pos) (.fix v) σ := ⟨.xbt W C hk hg hd⟩
theorem XE.bin {l r : Expr} {op : Operator} {pos : Pos} {a b x : SV} (h1 : XE Z D κ loc σ l a σ₁) (h2 : XE Z D κ loc σ₁ r b σ₂) (h3 : XB Z D op a b σ₂ x σ₃) : XE Z D κ loc σ (.BinOp l op r pos) x σ₃ := ⟨.bin h1.h h2.h h3.h⟩
theorem XE.una {e : Expr} {op : UnaryOp} {pos : Pos} {a x : SV} (h1 : XE Z D κ loc σ e a σ₁) (h2 : XU Z D op a σ₁ x σ₂) : XE Z D κ loc σ (.UnaryOp op e pos) x σ₂ := ⟨.una h1.h h2.h⟩
theorem XE.cmp {l r : Expr} {op : CmpOp} {pos : Pos} {a b : SV} {c : Bool} (h1 : XE Z D κ loc σ l a σ₁) (h2 : XE Z D κ loc σ₁ r b σ₂) (h3 : XC Z D op a b σ₂ c σ₃) (hm : behindInMarks op r = false) : XE Z D κ loc σ (.Compare l [op] [r] pos) (.bool c) σ₃ := ⟨.cmp h1.h h2.h h3.h hm⟩
theorem XE.ifTrue {t b o : Expr} {pos : Pos} {x : SV} (h1 : XT Z D κ loc σ t true σ₁) (h2 : XE Z D κ loc σ₁ b x σ₂) : XE Z D κ loc σ (.IfExp t b o pos) x σ₂ := ⟨.ifTrue h1.h h2.h⟩
theorem XE.ifFalse {t b o : Expr} {pos : Pos} {x : SV} (h1 : XT Z D κ loc σ t false σ₁) (h2 : XE Z D κ loc σ₁ o x σ₂) : XE Z D κ loc σ (.IfExp t b o pos) x σ₂ := ⟨.ifFalse h1.h h2.h⟩
theorem XE.and2 {x y : Expr} {pos : Pos} {a : SV} {c : SV} (h1 : XE Z D κ loc σ x a σ₁) (ht : XTr Z D a σ₁ true σ₂) (h2 : XE Z D κ loc σ₂ y c σ₃) : XE Z D κ loc σ (.BoolOp .And [x, y] pos) c σ₃ := ⟨.and2 h1.h ht.h h2.h⟩
theorem XE.list {elts : List Expr} {pos : Pos} {rs : List SV} (h1 : XL Z D κ loc σ elts rs σ₁) (hn : rs.length ≤ sizeLine) : XE Z D κ loc σ (.List elts pos) (.obj σ₁.length) (σ₁ ++ [.list rs]) := ⟨.list h1.h hn⟩
theorem XE.tuple {elts : List Expr} {k : Nat} {pos : Pos} {rs : List SV} (h1 : XL Z D κ loc σ elts rs σ₁) (hn : rs.length ≤ sizeLine) : XE Z D κ loc σ (.Tuple elts k pos) (.tup rs) σ₁ := ⟨.tuple h1.h hn⟩
theorem XE.slice {lo hi st : Option Expr} {l h k : Option Int} {pos : Pos} (h1 : XP Z D κ loc σ lo l) (h2 : XP Z D κ loc σ hi h) (h3 : XP Z D κ loc σ st k) : XE Z D κ loc σ (.Slice lo hi st pos) (.slice l h k) σ := ⟨.slice h1.h h2.h h3.h⟩
theorem XP.none : XP Z D κ loc σ none none := ⟨.none⟩
theorem XP.some {e : Expr} {i : Int} (h : XE Z D κ loc σ e (.int i) σ) : XP Z D κ loc σ (some e) (some i) := ⟨.some h.h⟩
theorem XE.subL {value slice : Expr} {pos : Pos} {i : Nat} {xs : List SV} {b r : SV} (h1 : XE Z D κ loc σ value (.obj i) σ₁) (h2 : XE Z D κ loc σ₁ slice b σ₂) (e : σ₂[i]? = some (.list xs)) (h3 : XG Z D (.obj i) b σ₂ r σ₃)
    (hs : ∀ o i, ∃ vs, subscripted slice false o i = operate vs (getItem o i)) : XE Z D κ loc σ (.Subscript value slice pos) r σ₃ := ⟨.sub h1.h h2.h h3.h (.list e) list_getitem_lookup hs⟩
theorem XE.subT {value slice : Expr} {pos : Pos} {xs : List SV} {b r : SV} (h1 : XE Z D κ loc σ value (.tup xs) σ₁) (h2 : XE Z D κ loc σ₁ slice b σ₂) (h3 : XG Z D (.tup xs) b σ₂ r σ₃)
    (hs : ∀ o i, ∃ vs, subscripted slice false o i = operate vs (getItem o i)) : XE Z D κ loc σ (.Subscript value slice pos) r σ₃ := ⟨.sub h1.h h2.h h3.h .tup slot_tuple_getitem.lookup hs⟩
theorem str_getitem : typeLookup (.type "str") "__getitem__" = pure (some (.builtin "str.__getitem__")) := by rw [typeLookup_type, builtinLookup_eq_fast]; kernel_rfl
theorem XE.subS {value slice : Expr} {pos : Pos} {x : Str} {b r : SV} (h1 : XE Z D κ loc σ value (.str x) σ₁) (h2 : XE Z D κ loc σ₁ slice b σ₂) (h3 : XG Z D (.str x) b σ₂ r σ₃)
    (hs : ∀ o i, ∃ vs, subscripted slice false o i = operate vs (getItem o i)) : XE Z D κ loc σ (.Subscript value slice pos) r σ₃ := ⟨.sub h1.h h2.h h3.h .str str_getitem hs⟩
theorem XE.call (W : W39 Z) {x : Str} {np pos : Pos} {es : List Expr} {f : SV} {rs : List SV} {r : SV} (h1 : XE Z D κ loc σ (.Name x np) f σ₁) (h2 : XL Z D κ loc σ₁ es rs σ₂) (hk : KeepSV Z f) (h3 : XK Z D f rs σ₂ r σ₃)
    (he : ∀ env, (starEach es env).all (fun x => !x.1) = true) : XE Z D κ loc σ (.Call (.Name x np) es [] pos) r σ₃ := ⟨.call W.ok h1.h h2.h hk h3.h he⟩
theorem XE.method (W : W39 Z) {o : Expr} {name : Str} {apos pos : Pos} {es : List Expr} {a f r : SV} {first rs : List SV} (h1 : XE Z D κ loc σ o a σ₁) (h2 : XM Z D a name σ₁ f first σ₂) (h3 : XL Z D κ loc σ₂ es rs σ₃) (hk : KeepSV Z f) (h4 : XK Z D f (first ++ rs) σ₃ r σ₄)
    (he : ∀ env, (starEach es env).all (fun x => !x.1) = true) (hm : ∀ env, ∃ pl : Sem Bool, eval (.Call (.Attribute o name apos) es [] pos) env = (do
      let ov ← eval o env
      standAt apos.atName
      let (f, first) ← holding [ov] (getMethod ov name pl)
      callWith pos f first (backTo pos (starEach es env)) [])) : XE Z D κ loc σ (.Call (.Attribute o name apos) es [] pos) r σ₄ := ⟨.method W.ok h1.h h2.h h3.h hk h4.h he hm⟩
theorem XE.attr {o : Expr} {name : Str} {pos : Pos} {a r : SV} (h1 : XE Z D κ loc σ o a σ₁) (h2 : XGA Z D a name σ₁ r σ₂) (hb : ∀ env, attributeBase o name env (eval o env) = eval o env) : XE Z D κ loc σ (.Attribute o name pos) r σ₂ := ⟨.attr h1.h h2.h hb⟩
theorem XL.nil : XL Z D κ loc σ [] [] σ := ⟨.nil⟩
theorem XL.cons {e : Expr} {es : List Expr} {r : SV} {rs : List SV} (h1 : XE Z D κ loc σ e r σ₁) (h2 : XL Z D κ loc σ₁ es rs σ₂) (he : ∀ env, starEach (e :: es) env = (false, eval e env) :: starEach es env) : XL Z D κ loc σ (e :: es) (r :: rs) σ₂ := ⟨.cons h1.h h2.h he⟩
-- tests
theorem XT.cmp {l r : Expr} {op : CmpOp} {pos : Pos} {a b : SV} {c c' : Bool} (h1 : XE Z D κ loc σ l a σ₁) (h2 : XE Z D κ loc σ₁ r b σ₂) (h3 : XC Z D op a b σ₂ c σ₃) (hm : behindInMarks op r = false) (hc : c = c') : XT Z D κ loc σ (.Compare l [op] [r] pos) c' σ₃ := by
  subst hc; exact ⟨.cmp h1.h h2.h h3.h hm⟩
theorem XT.notT {e : Expr} {pos : Pos} (h1 : XT Z D κ loc σ e false σ₁) : XT Z D κ loc σ (.UnaryOp .Not e pos) true σ₁ := ⟨h1.h.not⟩
theorem XT.notF {e : Expr} {pos : Pos} (h1 : XT Z D κ loc σ e true σ₁) : XT Z D κ loc σ (.UnaryOp .Not e pos) false σ₁ := ⟨h1.h.not⟩
theorem XT.val {e : Expr} {a : SV} {c c' : Bool} (h1 : XE Z D κ loc σ e a σ₁) (h2 : XTr Z D a σ₁ c σ₂) (he : ∀ env whole, isTrue e env whole = (do let v ← whole; standAt e.pos; holding [v] (truthy v))) (hc : c = c') : XT Z D κ loc σ e c' σ₂ := by
  subst hc; exact ⟨.val h1.h h2.h he⟩
theorem XT.or2 {x y : Expr} {pos : Pos} {c : Bool} (h1 : XT Z D κ loc σ x false σ₁) (h2 : XT Z D κ loc σ₁ y c σ₂) : XT Z D κ loc σ (.BoolOp .Or [x, y] pos) c σ₂ := ⟨.or2 h1.h h2.h⟩
-- operators
section
variable {a b : Int} {x y : Str}
theorem XB.add : XB Z D .Add (.int a) (.int b) σ (.int (a + b)) σ := ⟨.add⟩
theorem XB.sub : XB Z D .Sub (.int a) (.int b) σ (.int (a - b)) σ := ⟨.sub⟩
theorem XB.mul (ha : Sz a) (hb : Sz b) : XB Z D .Mult (.int a) (.int b) σ (.int (a * b)) σ := ⟨.mul ha hb⟩
theorem XB.fdiv (h0 : b ≠ 0) (hb : Sz b) : XB Z D .FloorDiv (.int a) (.int b) σ (.int (a.fdiv b)) σ := ⟨.fdiv h0 hb⟩
theorem XB.fmod (h0 : b ≠ 0) : XB Z D .Mod (.int a) (.int b) σ (.int (a.fmod b)) σ := ⟨.fmod h0⟩
theorem XB.shl (h0 : 0 ≤ b) (h1 : b ≤ 1000000) (ha : Sz a) : XB Z D .LShift (.int a) (.int b) σ (.int (a * 2 ^ b.toNat)) σ := ⟨.shl h0 h1 ha⟩
theorem XB.shr (h0 : 0 ≤ b) : XB Z D .RShift (.int a) (.int b) σ (.int (a.fdiv (2 ^ b.toNat))) σ := ⟨.shr h0⟩
theorem XB.xor : XB Z D .BitXor (.int a) (.int b) σ (.int (Builtin.bitXor a b)) σ := ⟨.xor⟩
theorem XB.pow (h0 : 0 ≤ b) (h1 : b ≤ 1000000) (ha : a.natAbs < 2 ^ 64) : XB Z D .Pow (.int a) (.int b) σ (.int (a ^ b.toNat)) σ := ⟨.pow h0 h1 ha⟩
theorem XB.adds (h : x.length + y.length ≤ sizeLine) : XB Z D .Add (.str x) (.str y) σ (.str (x ++ y)) σ := ⟨.adds h⟩
theorem XI.add : XI Z D .Add (.int a) (.int b) σ (.int (a + b)) σ := ⟨.add⟩
theorem XI.mul (ha : Sz a) (hb : Sz b) : XI Z D .Mult (.int a) (.int b) σ (.int (a * b)) σ := ⟨.mul ha hb⟩
theorem XI.fdiv (h0 : b ≠ 0) (hb : Sz b) : XI Z D .FloorDiv (.int a) (.int b) σ (.int (a.fdiv b)) σ := ⟨.fdiv h0 hb⟩
theorem XI.adds (h : x.length + y.length ≤ sizeLine) : XI Z D .Add (.str x) (.str y) σ (.str (x ++ y)) σ := ⟨.adds h⟩
theorem XC.eq : XC Z D .Eq (.int a) (.int b) σ (a == b) σ := ⟨.eq⟩
theorem XC.ne : XC Z D .NotEq (.int a) (.int b) σ (a != b) σ := ⟨.ne⟩
theorem XC.lt : XC Z D .Lt (.int a) (.int b) σ (decide (a < b)) σ := ⟨.lt⟩
theorem XC.le : XC Z D .LtE (.int a) (.int b) σ (decide (a ≤ b)) σ := ⟨.le⟩
theorem XC.gt : XC Z D .Gt (.int a) (.int b) σ (decide (a > b)) σ := ⟨.gt⟩
theorem XC.ge : XC Z D .GtE (.int a) (.int b) σ (decide (a ≥ b)) σ := ⟨.ge⟩
theorem XC.eqs : XC Z D .Eq (.str x) (.str y) σ (x == y) σ := ⟨.eqs⟩
theorem XC.nes : XC Z D .NotEq (.str x) (.str y) σ (x != y) σ := ⟨.nes⟩
theorem XC.ins : XC Z D .In (.str y) (.str x) σ (!(Builtin.Str.occurrences x y 0 x.length 1).isEmpty) σ := ⟨.ins⟩
theorem XU.inv : XU Z D .Invert (.int a) σ (.int (Builtin.bitNot a)) σ := ⟨.inv⟩
theorem XU.neg : XU Z D .USub (.int a) σ (.int (-a)) σ := ⟨.neg⟩
theorem XTr.int : XTr Z D (.int a) σ (a != 0) σ := ⟨.int⟩
theorem XTr.bool {c : Bool} : XTr Z D (.bool c) σ c σ := ⟨.bool⟩
theorem XTr.none : XTr Z D .none σ false σ := ⟨.none⟩
theorem XTr.list {i : Nat} {xs : List SV} (e : σ[i]? = some (.list xs)) (h : (xs.length : Int) < 2 ^ 63) : XTr Z D (.obj i) σ (!xs.isEmpty) σ := ⟨.list e h⟩
theorem XG.list {i : Nat} {k : Int} {xs : List SV} {x : SV} (e : σ[i]? = some (.list xs)) (h0 : 0 ≤ k) (h1 : k < 2 ^ 63) (hx : xs[k.toNat]? = some x) : XG Z D (.obj i) (.int k) σ x σ := ⟨.list e h0 h1 hx⟩
theorem XG.listNeg {i : Nat} {k : Int} {xs : List SV} {x : SV} (e : σ[i]? = some (.list xs)) (h0 : k < 0) (h1 : -(xs.length : Int) ≤ k) (h2 : -(2 ^ 63) ≤ k) (hx : xs[(k + xs.length).toNat]? = some x) : XG Z D (.obj i) (.int k) σ x σ := ⟨.listNeg e h0 h1 h2 hx⟩
theorem XG.tup {xs : List SV} {x : SV} {k : Int} {j : Nat} (hlo : -(2 ^ 63) ≤ k) (hhi : k < 2 ^ 63) (hj : seqIndex? k xs.length = some j) (hx : xs[j]? = some x) : XG Z D (.tup xs) (.int k) σ x σ := ⟨.tup hlo hhi hj hx⟩
theorem XG.str {i : Int} {c : Nat} (hr : (decide (i < -(2 ^ 63 : Int)) || decide (i ≥ 2 ^ 63)) = false) (hc : (seqIndex? i x.length).bind (x.cps[·]?) = some c) : XG Z D (.str x) (.int i) σ (.str ⟨#[c]⟩) σ := ⟨.str hr hc⟩
theorem XG.strSlice {lo hi : Option Int} (hx : x.length ≤ sizeLine) : XG Z D (.str x) (.slice lo hi none) σ (.str (strCut x lo hi)) σ := ⟨.strSlice hx⟩
theorem XG.listSlice {i : Nat} {xs : List SV} {lo hi st : Option Int} (e : σ[i]? = some (.list xs)) (h : xs.length ≤ sizeLine) (h0 : st ≠ some 0) : XG Z D (.obj i) (.slice lo hi st) σ (.obj σ.length) (σ ++ [.list (pickL xs lo hi st)]) := ⟨.listSlice e h h0⟩
theorem XSI.list {i : Nat} {j : Nat} {k : Int} {xs : List SV} {x : SV} (e : σ[i]? = some (.list xs)) (hk : k = j) (h1 : (j : Int) < 2 ^ 63) (h2 : j < xs.length) : XSI Z D (.obj i) (.int k) x σ (σ.set i (.list (xs.set j x))) := by subst hk; exact ⟨.list e h1 h2⟩
end
-- stores
theorem XA.var {x : Str} {pos : Pos} {y : SV} (C : Cx κ ns cs) (hk : ns.lookup x = some .local) (hu : Upd loc x y loc') : XA Z D κ loc σ (.Name x pos) y loc' σ := ⟨.xvar C hk hu⟩
theorem XA.cell {x : Str} {pos : Pos} {y : SV} {i : Nat} {y₀ : Option SV} (C : Cx κ ns cs) (hk : ns.lookup x = some .cell) (hc : cs.lookup x = some i) (hs : σ[i]? = some (.cell y₀)) : XA Z D κ loc σ (.Name x pos) y loc (σ.set i (.cell (some y))) := ⟨.xcell C hk hc hs⟩
theorem XA.tup {elts : List Expr} {k : Nat} {pos : Pos} {xs : List SV} (h : XAs Z D κ loc σ elts xs loc' σ') (he : ∀ env, (assignEach elts env).map (·.2) = elts.map fun t => PySem.assign t env) (hn : elts.length = xs.length) (hst : ∀ env, (assignEach elts env).findIdx? (·.1) = none) :
    XA Z D κ loc σ (.Tuple elts k pos) (.tup xs) loc' σ' := ⟨.tup h.h he hn hst⟩
theorem XA.sub {o i : Expr} {pos : Pos} {a b x : SV} (h1 : XE Z D κ loc σ o a σ₁) (h2 : XE Z D κ loc σ₁ i b σ₂) (h3 : XSI Z D a b x σ₂ σ₃) : XA Z D κ loc σ (.Subscript o i pos) x loc σ₃ := ⟨.sub h1.h h2.h h3.h⟩
theorem XA.attr {o : Expr} {name : Str} {pos : Pos} {a x : SV} (h1 : XE Z D κ loc σ o a σ₁) (h2 : XSA Z D a name x σ₁ σ₂) : XA Z D κ loc σ (.Attribute o name pos) x loc σ₂ := ⟨.attr h1.h h2.h⟩
theorem XAs.nil : XAs Z D κ loc σ [] [] loc σ := ⟨.nil⟩
theorem XAs.cons {t : Expr} {ts : List Expr} {x : SV} {xs : List SV} (h1 : XA Z D κ loc σ t x loc₁ σ₁) (h2 : XAs Z D κ loc₁ σ₁ ts xs loc₂ σ₂) : XAs Z D κ loc σ (t :: ts) (x :: xs) loc₂ σ₂ := ⟨.cons h1.h h2.h⟩
-- statements
theorem XSs.nil : XSs Z D κ loc σ [] .next loc σ := ⟨.nil⟩
theorem XSs.cons {st : Stmt} {rest : List Stmt} {f : AF} (h1 : XS Z D κ loc σ st .next loc₁ σ₁) (h2 : XSs Z D κ loc₁ σ₁ rest f loc₂ σ₂) : XSs Z D κ loc σ (st :: rest) f loc₂ σ₂ := ⟨.cons h1.h h2.h⟩
theorem XSs.stop {st : Stmt} {rest : List Stmt} {f : AF} (h1 : XS Z D κ loc σ st f loc₁ σ₁) (hf : f ≠ .next) : XSs Z D κ loc σ (st :: rest) f loc₁ σ₁ := ⟨.stop h1.h hf⟩
theorem XSs.forget {sts : List Stmt} {f : AF} (ext : Loc) (h : XSs Z D κ loc σ sts f (loc₁ ++ ext) σ') : XSs Z D κ loc σ sts f loc₁ σ' := ⟨.forget ext h.h⟩
theorem XS.assign {t e : Expr} {pos : Pos} {r : SV} (h1 : XE Z D κ loc σ e r σ₁) (h2 : XA Z D κ loc σ₁ t r loc₁ σ₂) (hs : ∀ env, swapsWithSole [t] e pos.line env = pure false) (hw : ∀ env, swappedStores [t] e env = pure none)
    (ht : ∀ env, (assignEach [t] env).map (·.2) = [PySem.assign t env]) : XS Z D κ loc σ (.Assign [t] e pos) .next loc₁ σ₂ := ⟨.assign h1.h h2.h hs hw ht⟩
theorem XS.aug {x : Str} {npos pos : Pos} {op : Operator} {e : Expr} {a b r : SV} (C : Cx κ ns cs) (hk : ns.lookup x = some .local) (hx : loc.lookup x = some a) (h1 : XE Z D κ loc σ e b σ₁) (h2 : XI Z D op a b σ₁ r σ₂) (hu : Upd loc x r loc') :
    XS Z D κ loc σ (.AugAssign (.Name x npos) op e pos) .next loc' σ₂ := ⟨.xaug C hk hx h1.h h2.h hu⟩
theorem XS.augSub {o i e : Expr} {tpos pos : Pos} {op : Operator} {a b old v new : SV} {σ₅ σ₆ : List SObj} (h1 : XE Z D κ loc σ o a σ₁) (h2 : XE Z D κ loc σ₁ i b σ₂) (h3 : XG Z D a b σ₂ old σ₃) (h4 : XE Z D κ loc σ₃ e v σ₄) (h5 : XI Z D op old v σ₄ new σ₅) (h6 : XSI Z D a b new σ₅ σ₆)
    (hi : ∀ ov iv new, augStore i ov iv new = (do holding [new, ov, iv] (setItem ov iv new); release [new, ov, iv] []; pure .next)) : XS Z D κ loc σ (.AugAssign (.Subscript o i tpos) op e pos) .next loc σ₆ := ⟨.augSub h1.h h2.h h3.h h4.h h5.h h6.h hi⟩
theorem XS.augAttr {o e : Expr} {name : Str} {tpos pos : Pos} {op : Operator} {a old v new : SV} {σ₅ : List SObj} (h1 : XE Z D κ loc σ o a σ₁) (h2 : XGA Z D a name σ₁ old σ₂) (h3 : XE Z D κ loc σ₂ e v σ₃) (h4 : XI Z D op old v σ₃ new σ₄) (h5 : XSA Z D a name new σ₄ σ₅) :
    XS Z D κ loc σ (.AugAssign (.Attribute o name tpos) op e pos) .next loc σ₅ := ⟨.augAttr h1.h h2.h h3.h h4.h h5.h⟩
theorem XS.expr {e : Expr} {pos : Pos} {r : SV} (h1 : XE Z D κ loc σ e r σ₁) (hs : ∀ env, swapsWith e none pos.line env = pure false) : XS Z D κ loc σ (.Expr e pos) .next loc σ₁ := ⟨.expr h1.h hs⟩
theorem XS.ret {e : Expr} {pos : Pos} {r : SV} (h1 : XE Z D κ loc σ e r σ₁) : XS Z D κ loc σ (.Return (some e) pos) (.ret r) loc σ₁ := ⟨.ret h1.h⟩
theorem XS.retNone {pos : Pos} : XS Z D κ loc σ (.Return none pos) (.ret .none) loc σ := ⟨.retNone⟩
theorem XS.cont {pos : Pos} : XS Z D κ loc σ (.Continue pos) .cont loc σ := ⟨.cont⟩
theorem XS.ifT {t : Expr} {b o : List Stmt} {pos : Pos} {f : AF} (h1 : XT Z D κ loc σ t true σ₁) (h2 : XSs Z D κ loc σ₁ b f loc₁ σ₂) : XS Z D κ loc σ (.If t b o pos) f loc₁ σ₂ := ⟨.ifT h1.h h2.h⟩
theorem XS.ifF {t : Expr} {b o : List Stmt} {pos : Pos} {f : AF} (h1 : XT Z D κ loc σ t false σ₁) (h2 : XSs Z D κ loc σ₁ o f loc₁ σ₂) : XS Z D κ loc σ (.If t b o pos) f loc₁ σ₂ := ⟨.ifF h1.h h2.h⟩
theorem XS.for {target iter : Expr} {body : List Stmt} {pos : Pos} {n : Nat} {f : AF} {v it : SV} (h1 : XE Z D κ loc σ iter v σ₁) (h2 : XIt Z D v σ₁ it σ₂) (h3 : LoopF Z D κ target body it n loc σ₂ f loc' σ')
    (ht : ∀ it v, letOwnedTupleGo target it v = pure ()) (hs : ∀ env x, foldedSetIterable iter env x = pure x) : XS Z D κ loc σ (.For target iter body [] pos) f loc' σ' := ⟨.for h1.h h2.h h3 ht hs⟩
theorem XS.while {test : Expr} {body : List Stmt} {pos : Pos} {n : Nat} {f : AF} (h : LoopW Z D κ test body n loc σ f loc' σ') : XS Z D κ loc σ (.While test body [] pos) f loc' σ' := ⟨.while h⟩
-- calls
theorem XK.lenList {i : Nat} {xs : List SV} (e : σ[i]? = some (.list xs)) (h : (xs.length : Int) < 2 ^ 63) : XK Z D (.fix (.builtin "len")) [.obj i] σ (.int xs.length) σ := ⟨.lenList e h⟩
theorem XK.lenStr {x : Str} (h : (x.length : Int) < 2 ^ 63) : XK Z D (.fix (.builtin "len")) [.str x] σ (.int x.length) σ := ⟨.lenStr h⟩
theorem XK.abs {a : Int} : XK Z D (.fix (.builtin "abs")) [.int a] σ (.int a.natAbs) σ := ⟨.abs⟩
theorem XK.range {n : Int} : XK Z D (.fix (.type "range")) [.int n] σ (.rng n) σ := ⟨.range⟩
theorem XK.listOf {i : Nat} {xs : List SV} (e : σ[i]? = some (.list xs)) (h : xs.length ≤ sizeLine) : XK Z D (.fix (.type "list")) [.obj i] σ (.obj σ.length) (σ ++ [.list xs]) := ⟨.listOf e h⟩
theorem XK.intText {x : Str} {n : Int} (hn : PySem.intText? x = some n) (hl : x.length ≤ 640) : XK Z D (.fix (.type "int")) [.str x] σ (.int n) σ := ⟨.intText hn hl⟩
theorem XK.strInt {a : Int} (h : Sz a) : XK Z D (.fix (.type "str")) [.int a] σ (.str (toString a)) σ := ⟨.strInt h⟩
theorem XK.strBool {b : Bool} : XK Z D (.fix (.type "str")) [.bool b] σ (.str (if b then "True" else "False")) σ := ⟨.strBool⟩
theorem XK.divmod {a b : Int} (h0 : b ≠ 0) (hb : Sz b) : XK Z D (.fix (.builtin "divmod")) [.int a, .int b] σ (.tup [.int (a.fdiv b), .int (a.fmod b)]) σ := ⟨.divmod h0 hb⟩
theorem XK.bitLength {a : Int} : XK Z D (.fix (.builtin "int.bit_length")) [.int a] σ (.int (Builtin.Int.intBits a)) σ := ⟨.bitLength⟩
theorem XK.append {i : Nat} {xs : List SV} {x : SV} (e : σ[i]? = some (.list xs)) (h : xs.length ≤ sizeLine) : XK Z D (.fix (.builtin "list.append")) [.obj i, x] σ .none (σ.set i (.list (xs ++ [x]))) := ⟨.append e h⟩
theorem XK.reverse {i : Nat} {xs : List SV} (e : σ[i]? = some (.list xs)) (h : xs.length ≤ sizeLine) : XK Z D (.fix (.builtin "list.reverse")) [.obj i] σ .none (σ.set i (.list xs.reverse)) := ⟨.reverse e h⟩
theorem XK.reversed {i : Nat} {xs : List SV} (e : σ[i]? = some (.list xs)) : XK Z D (.fix (.type "reversed")) [.obj i] σ (.obj σ.length) (σ ++ [.revIt i ((xs.length : Int) - 1)]) := ⟨.reversed e⟩
theorem XK.count {x y : Str} : XK Z D (.fix (.builtin "str.count")) [.str x, .str y] σ (.int (Txt.count x y)) σ := ⟨.count⟩
theorem XK.join {i : Nat} {x : Str} {xs : List Str} (e : σ[i]? = some (.list (xs.map SV.str))) (h : JoinOk x xs = true) : XK Z D (.fix (.builtin "str.join")) [.str x, .obj i] σ (.str (Txt.join x xs)) σ := ⟨.join e h⟩
theorem XK.split {x y : Str} (hy : (y.length == 0) = false) (hx : x.length ≤ sizeLine) (hn : (splitAt x y).length ≤ sizeLine) : XK Z D (.fix (.builtin "str.split")) [.str x, .str y] σ (.obj σ.length) (σ ++ [.list ((splitAt x y).map SV.str)]) := ⟨.split hy hx hn⟩
theorem XK.of {f r : SV} {args : List SV} (h : CallC Z D f args σ r σ') : XK Z D f args σ r σ' := ⟨h.call⟩
-- methods
theorem XM.append {i : Nat} {xs : List SV} (e : σ[i]? = some (.list xs)) : XM Z D (.obj i) "append" σ (.fix (.builtin "list.append")) [.obj i] σ := ⟨.list e F.plainAttrs_list F.slot_list_append F.type_list_append⟩
theorem XM.reverse {i : Nat} {xs : List SV} (e : σ[i]? = some (.list xs)) : XM Z D (.obj i) "reverse" σ (.fix (.builtin "list.reverse")) [.obj i] σ := ⟨.list e F.plainAttrs_list F.slot_list_reverse F.type_list_reverse⟩
theorem XM.bitLength {k : Int} : XM Z D (.int k) "bit_length" σ (.fix (.builtin "int.bit_length")) [.int k] σ := ⟨.int F.plainAttrs_int F.slot_int_bit_length F.type_int_bit_length⟩
theorem XM.count {x : Str} : XM Z D (.str x) "count" σ (.fix (.builtin "str.count")) [.str x] σ := ⟨.str F.plainAttrs_str F.slot_str_count F.type_str_count⟩
theorem XM.join {x : Str} : XM Z D (.str x) "join" σ (.fix (.builtin "str.join")) [.str x] σ := ⟨.str F.plainAttrs_str F.slot_str_join F.type_str_join⟩
theorem XM.split {x : Str} : XM Z D (.str x) "split" σ (.fix (.builtin "str.split")) [.str x] σ := ⟨.str F.plainAttrs_str F.slot_str_split F.type_str_split⟩
end
/-- a def's contract -/
theorem CallC.def (W : W39 Z) {a : Addr} {fd : FuncData} {body : List Stmt} {names : List Str} {rs : List SV} {f : AF} {ns : List (Str × NameKind)} (F : IsFn Z a fd body) (hbind : ∀ vs : List Value, vs.length = rs.length → bindArgs fd ⟨vs, []⟩ = pure (names.zip vs)) (hnl : names.length = rs.length)
    (hns : fd.scope.names = ns) (hcell : ∀ x ∈ ns, x.2 ≠ .cell) (hloc : ∀ n ∈ names, ns.lookup n = some .local) (hnd : names.Nodup) (hl : names.zip rs = loc) (h : ∀ κ, Cx κ ns [] → ∃ loc', XSs Z D κ loc σ body f loc' σ') : CallC Z (D + 1) (.fix (.ref a)) rs σ (retOf f) σ' := by
  subst hns hl
  obtain ⟨loc', h⟩ := h ⟨fd.qualname, fd.scope, fd.code, []⟩ ⟨rfl, rfl⟩
  exact .fn W.ok F hbind hnl hcell hloc hnd h.h
end

theorem listS {α : Type} {n : Nat} {l : List α} (h : l.length = n + 1) : ∃ a t, l = a :: t ∧ t.length = n := by
  cases l with
  | nil => exact absurd h (Nat.succ_ne_zero n).symm
  | cons a t => exact ⟨a, t, rfl, Nat.succ.inj h⟩
theorem list1 {α : Type} {l : List α} (h : l.length = 1) : ∃ a, l = [a] :=
  let ⟨a, _, e, h⟩ := listS h; ⟨a, e.trans (congrArg _ (List.eq_nil_of_length_eq_zero h))⟩
theorem list2 {α : Type} {l : List α} (h : l.length = 2) : ∃ a b, l = [a, b] :=
  let ⟨a, _, e, h⟩ := listS h; let ⟨b, e2⟩ := list1 h; ⟨a, b, e.trans (congrArg _ e2)⟩
theorem list3 {α : Type} {l : List α} (h : l.length = 3) : ∃ a b c, l = [a, b, c] :=
  let ⟨a, _, e, h⟩ := listS h; let ⟨b, c, e2⟩ := list2 h; ⟨a, b, c, e.trans (congrArg _ e2)⟩
theorem list4 {α : Type} {l : List α} (h : l.length = 4) : ∃ a b c d, l = [a, b, c, d] :=
  let ⟨a, _, e, h⟩ := listS h; let ⟨b, c, d, e2⟩ := list3 h; ⟨a, b, c, d, e.trans (congrArg _ e2)⟩
theorem list5 {α : Type} {l : List α} (h : l.length = 5) : ∃ a b c d e, l = [a, b, c, d, e] :=
  let ⟨a, _, e, h⟩ := listS h; let ⟨b, c, d, f, e2⟩ := list4 h; ⟨a, b, c, d, f, e.trans (congrArg _ e2)⟩
variable {Z : Zt} {D : Nat}
noncomputable def iv (xs : List Int) : List SV := xs.map SV.int
end Mine

namespace Mine
open PySem PySem.W PyProof.Rows PySem.Calls

-- the regular expression's builtins
theorem pattern_attrs : PlainAttrs "re.Pattern" :=
  ⟨⟨"object.__getattribute__", by rw [typeLookup_type, builtinLookup_eq_fast]; kernel_rfl, by decide +kernel⟩, by rw [typeLookup_type, builtinLookup_eq_fast]; kernel_rfl⟩
theorem match_attrs : PlainAttrs "re.Match" :=
  ⟨⟨"object.__getattribute__", by rw [typeLookup_type, builtinLookup_eq_fast]; kernel_rfl, by decide +kernel⟩, by rw [typeLookup_type, builtinLookup_eq_fast]; kernel_rfl⟩
theorem slot_search : Slot "re.Pattern" "search" "re.Pattern.search" :=
  .of (owner := "re.Pattern") (n := "search") (by rw [typeLookup_type, builtinLookup_eq_fast]; kernel_rfl) (by decide +kernel) (by decide +kernel) (by decide +kernel)
    (by first | exact .inl (by decide +kernel) | exact .inr (by decide +kernel)) (by rw [isSubtype_type]; kernel_rfl)
theorem type_search : typeOf (.builtin "re.Pattern.search") = pure (.type "method_descriptor") := by show builtinType _ = _; rw [builtinType_eq_fast]; kernel_rfl
theorem entry_search : entryFor table "re.Pattern.search" = some Builtin.«re.Pattern.search» := entryFor_of_tree (by kernel_rfl)
theorem args_search (a b : Value) : argsOk "re.Pattern.search" ⟨[a, b], []⟩ := by
  unfold argsOk; kernel_rfl
theorem slot_span : Slot "re.Match" "span" "re.Match.span" :=
  .of (owner := "re.Match") (n := "span") (by rw [typeLookup_type, builtinLookup_eq_fast]; kernel_rfl) (by decide +kernel) (by decide +kernel) (by decide +kernel)
    (by first | exact .inl (by decide +kernel) | exact .inr (by decide +kernel)) (by rw [isSubtype_type]; kernel_rfl)
theorem type_span : typeOf (.builtin "re.Match.span") = pure (.type "method_descriptor") := by show builtinType _ = _; rw [builtinType_eq_fast]; kernel_rfl
theorem entry_span : entryFor table "re.Match.span" = some Builtin.«re.Match.span» := entryFor_of_tree (by kernel_rfl)
theorem args_span (a b : Value) : argsOk "re.Match.span" ⟨[a, b], []⟩ := by
  unfold argsOk; kernel_rfl
theorem slot_group : Slot "re.Match" "group" "re.Match.group" :=
  .of (owner := "re.Match") (n := "group") (by rw [typeLookup_type, builtinLookup_eq_fast]; kernel_rfl) (by decide +kernel) (by decide +kernel) (by decide +kernel)
    (by first | exact .inl (by decide +kernel) | exact .inr (by decide +kernel)) (by rw [isSubtype_type]; kernel_rfl)
theorem type_group : typeOf (.builtin "re.Match.group") = pure (.type "method_descriptor") := by show builtinType _ = _; rw [builtinType_eq_fast]; kernel_rfl
theorem entry_group : entryFor table "re.Match.group" = some Builtin.«re.Match.group» := entryFor_of_tree (by kernel_rfl)
theorem args_group (a b : Value) : argsOk "re.Match.group" ⟨[a, b], []⟩ := by
  unfold argsOk; kernel_rfl
theorem slot_mga : Slot "re.Match" "__getattribute__" "object.__getattribute__" :=
  .of (owner := "object") (n := "__getattribute__") (by rw [typeLookup_type, builtinLookup_eq_fast]; kernel_rfl) (by decide +kernel) (by decide +kernel) (by decide +kernel)
    (by first | exact .inl (by decide +kernel) | exact .inr (by decide +kernel)) (by rw [isSubtype_type]; kernel_rfl)
theorem lk_string : typeLookup (.type "re.Match") "string" = pure (some (.builtin "re.Match.string")) := by rw [typeLookup_type, builtinLookup_eq_fast]; kernel_rfl
theorem type_string : typeOf (.builtin "re.Match.string") = pure (.type "member_descriptor") := by show builtinType _ = _; rw [builtinType_eq_fast]; kernel_rfl
theorem entry_string : entryFor table "re.Match.string" = some Builtin.«re.Match.string» := entryFor_of_tree (by kernel_rfl)
theorem slot_md_get : Slot "member_descriptor" "__get__" "member_descriptor.__get__" :=
  .of (owner := "member_descriptor") (n := "__get__") (by rw [typeLookup_type, builtinLookup_eq_fast]; kernel_rfl) (by decide +kernel) (by decide +kernel) (by decide +kernel)
    (by first | exact .inl (by decide +kernel) | exact .inr (by decide +kernel)) (by rw [isSubtype_type]; kernel_rfl)
theorem slot_md_set : Slot "member_descriptor" "__set__" "member_descriptor.__set__" :=
  .of (owner := "member_descriptor") (n := "__set__") (by rw [typeLookup_type, builtinLookup_eq_fast]; kernel_rfl) (by decide +kernel) (by decide +kernel) (by decide +kernel)
    (by first | exact .inl (by decide +kernel) | exact .inr (by decide +kernel)) (by rw [isSubtype_type]; kernel_rfl)
theorem entry_md_get : entryFor table "member_descriptor.__get__" = some Builtin.«member_descriptor.__get__» := entryFor_of_tree (by kernel_rfl)
theorem args_md_get (a b c : Value) : argsOk "member_descriptor.__get__" ⟨[a, b, c], []⟩ := by unfold argsOk; kernel_rfl
theorem sub_match : isSubtype (.type "re.Match") (.type "re.Match") = pure true := by rw [isSubtype_type]; kernel_rfl
theorem owner_string : (".".intercalate ("re.Match.string".cutAt '.').dropLast) = "re.Match" := by
  have e0 : "re.Match.string".cutAt '.' = ["re", "Match", "string"] := by first | rfl | decide +kernel
  rw [e0]; decide +kernel

open PySem.Sre
theorem runFor_done : ∀ (n : Nat) (m : M), m.outcome.isSome = true → M.runFor n m = m
  | 0, m, _ => rfl
  | n + 1, m, h => by unfold M.runFor; rw [h]; rfl
theorem runFor_add : ∀ (a b : Nat) (m : M), M.runFor (a + b) m = M.runFor b (M.runFor a m)
  | 0, b, m => by rw [Nat.zero_add]; rfl
  | a + 1, b, m => by
    rw [show a + 1 + b = (a + b) + 1 from by (first | lia | omega)]
    cases h : m.outcome.isSome with
    | true => rw [runFor_done _ m h, runFor_done (a + 1) m h, runFor_done b m h]
    | false =>
      have e1 : M.runFor (a + b + 1) m = M.runFor (a + b) m.step := by rw [M.runFor, h]; rfl
      have e2 : M.runFor (a + 1) m = M.runFor a m.step := by rw [M.runFor, h]; rfl
      rw [e1, e2, runFor_add a b]

section
variable {M' : Model} {A : Around} {E : Value → Shared → Prop} {s : Shared}
theorem drive {Q : M → Shared → Prop} : ∀ (k turns : Nat) (m : M), k < turns → (M.runFor (4 * (k + 1)) m).outcome.isSome = true → Q (M.runFor (4 * (k + 1)) m) s → wpAny M' A (Builtin.Re.reDrive turns m) Q E s
  | k, 0, m, h, _, _ => by (first | lia | omega)
  | 0, t + 1, m, h, h1, h2 => by
    unfold Builtin.Re.reDrive
    have e : Builtin.Re.reTurnSteps = 4 * (0 + 1) := rfl
    simp only [e, h1, if_true]
    exact wpAny_pure h2
  | k + 1, t + 1, m, h, h1, h2 => by
    have e2 : M.runFor (4 * (k + 1 + 1)) m = M.runFor (4 * (k + 1)) (M.runFor 4 m) := by rw [← runFor_add]; congr 1; (first | lia | omega)
    unfold Builtin.Re.reDrive
    have e : Builtin.Re.reTurnSteps = 4 := rfl
    simp only [e]
    by_cases q : (M.runFor 4 m).outcome.isSome = true
    · rw [if_pos q]
      rw [e2, runFor_done _ _ q] at h2
      exact wpAny_pure h2
    · rw [if_neg q]
      refine wpAny_bind (wpAny_rule ?_)
      rw [e2] at h1 h2
      exact drive k t _ (by (first | lia | omega)) h1 h2
end

noncomputable def codeL : List Nat := [14, 8, 1, 2, 4294967295, 1, 1, 46, 0, 16, 46, 24, 9, 1, 4294967295, 13, 4, 8, 0, 0, 1, 6, 5, 1]
noncomputable def codeR : Array Nat := codeL.toArray
noncomputable def endM (x : Str) : M := M.runFor 400 (forSearch codeR x.cps 0 0 x.cps.size false)
/-- where the last label with its dot is found -/
noncomputable def endR (x : Str) : Option (Option (Nat × Nat)) :=
  match (endM x).outcome with
  | some .matched => some (some ((endM x).start, (endM x).handed))
  | some .failed => some none
  | _ => none

theorem wpAny_rules {M' : Model} {A : Around} {E : Value → Shared → Prop} {s : Shared} {p : Nat → Bool} {g : Nat → String} {Q : PUnit → Shared → Prop} (h : Q ⟨⟩ s) : ∀ l : List Nat,
    wpAny M' A (forIn l PUnit.unit (fun i (_ : PUnit) => if p i = true then (rule (g i) >>= fun _ => pure (ForInStep.yield PUnit.unit)) else pure (ForInStep.yield PUnit.unit))) Q E s
  | [] => wpAny_pure h
  | a :: l => by
    rw [List.forIn_cons]
    refine wpAny_bind ?_
    by_cases q : p a = true
    · rw [if_pos q]; exact wpAny_bind (wpAny_rule (wpAny_pure (wpAny_rules h l)))
    · rw [if_neg q]; exact wpAny_pure (wpAny_rules h l)

theorem run_end {M' : Model} {A : Around} {E : Value → Shared → Prop} {s : Shared} {x : Str} {r : Option (Nat × Nat)} {Q : Option M → Shared → Prop} (h : endR x = some r)
    (h1 : r = none → Q none s) (h2 : ∀ m i j, r = some (i, j) → m.start = i → m.handed = j → Q (some m) s) : wpAny M' A (Builtin.Re.reRunToEnd (forSearch codeR x.cps 0 0 x.cps.size false)) Q E s := by
  unfold Builtin.Re.reRunToEnd
  have hs : (endM x).outcome.isSome = true := by
    unfold endR at h
    cases q : (endM x).outcome with
    | none => rw [q] at h; cases h
    | some o => rfl
  refine wpAny_bind (drive 99 (2 ^ 64) _ (by decide) hs ?_)
  refine wpAny_bind (wpAny_rules ?_ _)
  have e : M.runFor (4 * (99 + 1)) (forSearch codeR x.cps 0 0 x.cps.size false) = endM x := rfl
  rw [e]
  unfold endR at h
  cases q : (endM x).outcome with
  | none => rw [q] at h; cases h
  | some o =>
    rw [q] at h
    cases o with
    | matched => exact wpAny_pure (h2 _ _ _ (Option.some.inj h).symm rfl rfl)
    | failed => exact wpAny_pure (h1 (Option.some.inj h).symm)
    | stuck => cases h

section
variable {Z : Zt} {D : Nat} {κ : Ctx} {loc : Loc} {σ σ' : List SObj}
theorem re_at (W : W39 Z) {ρ : List Addr} {s : Shared} (r : RelH Z ρ σ s) : s.heap.get? 114 = some ⟨.type "re.Pattern", none, .fields #[.str (Str.ofString "\\.\\d+$") 421, .int 256 448, .int 0 0, .none, .none, .ref 113, .int 0 0], #[]⟩ :=
  r.base _ _ (W.ok.k _ _ (by rw [W.K]; rfl))
theorem re_code_at (W : W39 Z) {ρ : List Addr} {s : Shared} (r : RelH Z ρ σ s) : ∃ n, s.heap.get? 113 = some ⟨.type "tuple", none, .seq (codeL.map fun n => Value.int (n : Nat) 0).toArray n, #[]⟩ :=
  ⟨_, r.base _ _ (W.ok.k _ _ (by rw [W.K]; rfl))⟩
theorem re_type (W : W39 Z) {ρ : List Addr} {s : Shared} (r : RelH Z ρ σ s) : s.TypeIs (.ref 114) "re.Pattern" := ⟨_, re_at W r, rfl⟩

theorem Meth.search (W : W39 Z) : Meth Z D (.fix (.ref 114)) "search" σ (.fix (.builtin "re.Pattern.search")) [.fix (.ref 114)] σ :=
  .builtin (fun s ρ v rel r => by apply RepV.elim r; exact ⟨re_type W rel, by intro b hb; injection hb with hb; subst hb; exact ⟨_, re_at W rel, rfl⟩⟩) pattern_attrs slot_search type_search

noncomputable def mOf (x : Str) : Option (Nat × Nat) → SV
  | none => .none
  | some (i, j) => .mtch x i j

theorem re_named {v : Value} {id f : String} : Builtin.Re.reNamed id f ["string", "pos", "endpos"] 1 [v] [] = pure [some v, none, none] := by with_unfolding_all rfl
theorem wpAny_of_pure {α : Type} {M' : Model} {A : Around} {E : Value → Shared → Prop} {s : Shared} {t : Sem α} {a : α} {Q : α → Shared → Prop} (e : t = pure a) (h : Q a s) : wpAny M' A t Q E s := e ▸ wpAny_pure h
theorem re_items {n : Nat} {xs : List Nat} {a : Addr} {M' : Model} {A : Around} {E : Value → Shared → Prop} {s : Shared} {o : Obj} {Q : Array Int → Shared → Prop} (e : s.heap.get? a = some o) (hd : o.data = .seq (xs.map fun n => Value.int (n : Nat) 0).toArray n) (h : Q (xs.map fun n => ((n : Nat) : Int)).toArray s) : wpAny M' A (Builtin.Re.reRawItems (.ref a)) Q E s := by
  unfold Builtin.Re.reRawItems
  refine wpAny_bind (wpAny_seqItems e hd (wpAny_pure ?_))
  have e : (Option.getD (some (xs.map fun n => Value.int (n : Nat) 0).toArray) #[]).map Builtin.Re.reRawOf = (xs.map fun n => ((n : Nat) : Int)).toArray := by
    simp [Function.comp_def, Builtin.Re.reRawOf]
  rw [e]
  exact h
theorem re_target (W : W39 Z) {A : Around} {E : Value → Shared → Prop} {s : Shared} {ρ : List Addr} {x : Str} {t : Tok} {Q : Builtin.Re.ReTarget → Shared → Prop} (rel : RelH Z ρ σ s) (hx : x.cps.size < 2 ^ 60)
    (h : Q { pattern := .ref 114, string := .str x t, code := codeR, text := x.cps, kind := 0, groups := 0, pos := 0, lim := x.cps.size } s) :
    wpAny (model Z.prog Z.w) A (Builtin.Re.reTarget "re.Pattern.search" "search" ⟨[.ref 114, .str x t], []⟩) Q E s := by
  obtain ⟨n, hc⟩ := re_code_at W rel
  unfold Builtin.Re.reTarget
  dsimp only
  refine wpAny_bind (wpAny_of_pure re_named ?_)
  dsimp only
  refine wpAny_bind (wpAny_pure ?_)
  refine wpAny_bind (wpAny_pure ?_)
  refine wpAny_bind (wpAny_fieldsOf (re_at W rel) rfl ?_)
  have tx : ∀ {Q' : Array Nat × Nat → Shared → Prop}, Q' (x.cps, 0) s → wpAny (model Z.prog Z.w) A (Builtin.Re.reTextOf (.str x t)) Q' E s := fun hq => by
    unfold Builtin.Re.reTextOf
    refine wpAny_bind (m := asStr? _) (wpAny_of_eq (a := some x) (by first | rfl | simp [asStr?]) ?_)
    exact wpAny_pure hq
  refine wpAny_bind (tx ?_)
  dsimp only
  rw [if_neg (by decide), if_neg (by decide)]
  refine wpAny_bind (wpAny_of_pure (a := ()) (by rfl) ?_)
  refine wpAny_bind (re_items hc rfl ?_)
  refine wpAny_pure ?_
  have e1 : Array.map (fun x => Int.toNat x) (codeL.map fun n => ((n : Nat) : Int)).toArray = codeR := by decide +kernel
  have e2 : min (Int.toNat 0) x.cps.size = 0 := by simp
  have e3 : min (Int.toNat (2 ^ 63 - 1)) x.cps.size = x.cps.size := Nat.min_eq_right (by (first | lia | omega))
  rw [e1, e2, e3]
  exact h

theorem Call.search (W : W39 Z) {x : Str} {r : Option (Nat × Nat)} (h : endR x = some r) (hx : x.cps.size < 2 ^ 60) : Call Z D (.fix (.builtin "re.Pattern.search")) [.fix (.ref 114), .str x] σ (mOf x r) σ := .two fun A s ρ v u ok r1 r2 => by
  apply RepV.elim r1
  apply RepV.elim r2; intro t
  refine wpAny_call_entry slot_search (re_type W ok.rel) entry_search ?_ (args_search _ _)
  unfold Builtin.«re.Pattern.search»
  refine wpAny_bind (re_target W ok.rel hx ?_)
  dsimp only
  unfold Builtin.Re.reAnswer
  dsimp only
  refine wpAny_bind (run_end h (fun e => ?_) fun m i j e e1 e2 => ?_)
  · subst e
    exact wpAny_pure ⟨_, rfl, Post.now0 ok .none⟩
  · subst e e1 e2
    unfold Builtin.Re.reNewMatch
    dsimp only
    have hn : ∀ (l : List Value), l = [rawInt m.start, rawInt m.handed] → wpAny (model Z.prog Z.w) A.in1 (newTuple l >>= fun tp => newFields "re.Match" [.str x t, .ref 114, rawInt (0 : Nat), rawInt (x.cps.size : Nat), rawInt m.lastindex, tp] >>= fun r => ret r)
        (fun fin s' => ∃ v, fin = Fin.done (Flow.ret v) ∧ Post Z D A [] ρ s σ (isV (mOf x (some (m.start, m.handed)))) v s') bot s := by
      rintro l rfl
      unfold newTuple newFields
      refine wpAny_bind (wpAny_newObj_type (wpAny_bind (wpAny_newObj_type ?_)))
      refine wpAny_pure ⟨_, rfl, ?_⟩
      refine Post.grow ok _ (fun b o q => Heap.get?_push_of_some _ (Heap.get?_push_of_some _ q)) ?_
      refine .mtch (x := x) (lim := x.cps.size) (t := t) (p := .ref 114) (b := s.heap.objs.size) (n := 0) (k := m.lastindex) (Heap.get?_push_size _ rfl) (Heap.get?_push_of_some _ (Heap.get?_push_size _ rfl))
    rw [if_neg (by simp)]
    simp only [bind_assoc]
    exact hn _ rfl

theorem TyIs.mtch {x : Str} {i j : Nat} : TyIs Z σ (.mtch x i j) "re.Match" := fun s ρ v rel r => by
  apply RepV.elim r; intro _ _ _ _ _ _ _ e e2; exact ⟨_, e, rfl⟩
theorem mtch_no {x : Str} {i j : Nat} {s : Shared} {ρ : List Addr} {v : Value} (r : RepV ρ s.heap (.mtch x i j) v) : ∀ b, v = .ref b → ∃ o, s.heap.get? b = some o ∧ o.dict = none := by
  apply RepV.elim r; intro _ _ _ _ _ _ _ e e2; intro b hb; injection hb with hb; subst hb; exact ⟨_, e, rfl⟩
theorem Meth.span {x : Str} {i j : Nat} : Meth Z D (.mtch x i j) "span" σ (.fix (.builtin "re.Match.span")) [.mtch x i j] σ :=
  .builtin (fun s ρ v rel r => ⟨TyIs.mtch s ρ v rel r, mtch_no r⟩) match_attrs slot_span type_span
theorem Meth.group {x : Str} {i j : Nat} : Meth Z D (.mtch x i j) "group" σ (.fix (.builtin "re.Match.group")) [.mtch x i j] σ :=
  .builtin (fun s ρ v rel r => ⟨TyIs.mtch s ρ v rel r, mtch_no r⟩) match_attrs slot_group type_group

theorem re_found {M' : Model} {A : Around} {E : Value → Shared → Prop} {s : Shared} {i j n : Nat} {a b : Addr} {fs : Array Value} {Q : Builtin.Re.ReFound → Shared → Prop} {o : Obj} (e : s.heap.get? a = some o) (ed : o.data = .fields fs) (h5 : fs.getD 5 .none = .ref b)
    (e2 : s.heap.get? b = some ⟨.type "tuple", none, .seq #[rawInt i, rawInt j] n, #[]⟩) (h : Q ⟨fs, #[(i : Int), (j : Int)]⟩ s) : wpAny M' A (Builtin.Re.reFound (.ref a)) Q E s := by
  unfold Builtin.Re.reFound
  refine wpAny_bind (wpAny_fieldsOf e ed ?_)
  rw [h5]
  unfold Builtin.Re.reRawItems
  refine wpAny_bind (wpAny_bind (wpAny_seqItems e2 rfl (wpAny_pure (wpAny_pure ?_))))
  have e : (Option.getD (some #[rawInt i, rawInt j]) #[]).map Builtin.Re.reRawOf = #[(i : Int), (j : Int)] := by
    simp [Builtin.Re.reRawOf, rawInt]
  rw [e]
  exact h
theorem re_number {M' : Model} {A : Around} {E : Value → Shared → Prop} {s : Shared} {i j : Int} {fs : Array Value} {t : Tok} {Q : Nat → Shared → Prop} (h : Q 0 s) : wpAny M' A (Builtin.Re.reGroupNumber ⟨fs, #[i, j]⟩ (.int 0 t)) Q E s := by
  unfold Builtin.Re.reGroupNumber
  refine wpAny_bind (m := asInt? _) (wpAny_of_eq (a := some 0) (by first | rfl | simp [asInt?]) ?_)
  dsimp only
  rw [if_pos (show (some (0 : Int)).isSome = true from rfl)]
  refine wpAny_bind ?_
  unfold asIndex
  refine wpAny_bind (m := asInt? _) (wpAny_of_eq (a := some 0) (by first | rfl | simp [asInt?]) ?_)
  refine wpAny_pure ?_
  rw [if_neg (by simp)]
  exact wpAny_pure h
theorem Call.span {x : Str} {i j : Nat} : Call Z D (.fix (.builtin "re.Match.span")) [.mtch x i j, .int 0] σ (.tup [.int i, .int j]) σ := .two fun A s ρ v u ok r1 r2 => by
  have hT := TyIs.mtch s ρ v ok.rel r1
  revert hT; apply RepV.elim r2; intro t
  apply RepV.elim r1; intro _ _ _ _ _ _ _ e e2 hT
  refine wpAny_call_entry slot_span hT entry_span ?_ (args_span _ _)
  unfold Builtin.«re.Match.span» Builtin.Re.reOneGroup selfAndSome
  refine wpAny_bind (wpAny_bind (wpAny_bind (wpAny_of_pure (a := ()) rfl ?_)))
  dsimp only
  refine wpAny_bind (wpAny_of_pure (a := ()) rfl ?_)
  refine wpAny_pure ?_
  dsimp only
  refine wpAny_bind (re_found e rfl rfl e2 ?_)
  refine wpAny_bind (re_number ?_)
  refine wpAny_pure ?_
  refine wpAny_bind (wpAny_mkInt (wpAny_bind (wpAny_mkInt ?_)))
  unfold newTuple
  refine wpAny_bind (wpAny_newObj_type (wpAny_pure ⟨_, rfl, ?_⟩))
  exact Post.grow ok _ (fun b o q => Heap.get?_push_of_some _ q) (.tup (Heap.get?_push_size _ rfl) rfl fun k y v h1 h2 => by
    match k, h1, h2 with
    | 0, h1, h2 => cases h1; cases h2; exact .int _ _
    | 1, h1, h2 => cases h1; cases h2; exact .int _ _)
/-- a piece of a text, from there to there -/
noncomputable def cutN (x : Str) (i j : Nat) : Str := ⟨x.cps.extract i j⟩
theorem Call.group {x : Str} {i j : Nat} (hx : x.cps.size ≤ sizeLine) : Call Z D (.fix (.builtin "re.Match.group")) [.mtch x i j, .int 0] σ (.str (cutN x i j)) σ := .two fun A s ρ v u ok r1 r2 => by
  have hT := TyIs.mtch s ρ v ok.rel r1
  revert hT; apply RepV.elim r2; intro t
  apply RepV.elim r1; intro _ tx _ _ _ _ _ e e2 hT
  refine wpAny_call_entry slot_group hT entry_group ?_ (args_group _ _)
  unfold Builtin.«re.Match.group»
  refine wpAny_bind (wpAny_of_pure (a := ()) rfl ?_)
  dsimp only
  refine wpAny_bind (re_found e rfl rfl e2 ?_)
  refine wpAny_bind (re_number ?_)
  refine wpAny_bind ?_
  unfold Builtin.Re.reGroupText
  have e3 : (#[(i : Int), (j : Int)] : Array Int).getD (2 * 0) (-1) = i := rfl
  have e4 : (#[(i : Int), (j : Int)] : Array Int).getD (2 * 0 + 1) (-1) = j := rfl
  simp only [e3, e4]
  have e5 : (decide ((i : Int) < 0) || decide ((j : Int) < 0)) = false := by simp
  rw [e5]
  simp only [Bool.false_eq_true, if_false]
  unfold Builtin.Re.reTextOf
  refine wpAny_bind (wpAny_bind (m := asStr? _) (wpAny_of_eq (a := some x) (by first | rfl | simp [asStr?]) (wpAny_pure ?_)))
  show wpAny _ _ (mkStr ⟨x.cps.extract i j⟩) _ _ _
  refine wpAny_mkStr ?_ (by show (x.cps.extract i j).size ≤ _; simp; (first | lia | omega))
  exact wpAny_pure ⟨_, rfl, Post.now ok _ (.str _ _)⟩

section
variable {prog : Program} {w : World} {A : Around} {E : Value → Shared → Prop} {h : Heap} {g : Array GenState} {d : Drawn} {t : Nat} {os : OsState} {a : Addr} {o : Obj} {vs : Array Value} {a0 : Value}
theorem ms_get {R : Result → Shared → Prop} (hx : h.get? a = some o) (hc : o.cls = .type "re.Match") (hd : o.data = .fields vs) (h0 : vs[0]? = some a0) (hq : R (.ok (.ret a0)) ⟨h, g, d, t, os⟩) :
    codeAny (model prog w) A (.call (.builtin "member_descriptor.__get__") ⟨[.builtin "re.Match.string", .ref a, .type "re.Match"], []⟩) R ⟨h, g, d, t, os⟩ := by
  have hT : (⟨h, g, d, t, os⟩ : Shared).TypeIs (.ref a) "re.Match" := ⟨_, hx, hc⟩
  have hT5 : (⟨h, g, d, t, os⟩ : Shared).TypeIs (.builtin "re.Match.string") "member_descriptor" := type_string
  have f8 : isSubtype (.type "re.Match") (.type (".".intercalate ("re.Match.string".cutAt '.').dropLast)) = pure true := by rw [owner_string]; exact sub_match
  refine codeAny_call_builtin slot_md_get.plain entry_md_get (slot_md_get.check _ _ _ _ _ _ _ _ hT5 (args_md_get _ _ _) ?_)
  repeat (any_goals (first | assumption | wp_step))
  refine ⟨Code.quiet_builtin _ (by decide +kernel), codeAny_builtin entry_string ?_⟩
  unfold Builtin.«re.Match.string»
  refine wpAny_bind (wpAny_field (a := a) hx hd h0 ?_)
  repeat (any_goals (first | assumption | wp_step))
theorem ms_entry {tk : Tok} {Q : Fin → Shared → Prop} (hx : h.get? a = some o) (hc : o.cls = .type "re.Match") (hd : o.data = .fields vs) (h0 : vs[0]? = some a0) (hq : Q (.done (.ret a0)) ⟨h, g, d, t, os⟩) :
    wpAny (model prog w) A (Builtin.«object.__getattribute__» ⟨[.ref a, .str "string" tk], []⟩) Q E ⟨h, g, d, t, os⟩ := by
  have hT : (⟨h, g, d, t, os⟩ : Shared).TypeIs (.ref a) "re.Match" := ⟨_, hx, hc⟩
  have hT5 : (⟨h, g, d, t, os⟩ : Shared).TypeIs (.builtin "re.Match.string") "member_descriptor" := type_string
  have f4 := lk_string
  have f5 := type_string
  have f6 := slot_md_get.lookup
  have f7 := slot_md_set.lookup
  repeat (any_goals (first | assumption | wp_step))
  refine ms_get hx hc hd h0 ?_
  repeat (any_goals (first | assumption | wp_step))
theorem args_oga (a b : Value) : argsOk "object.__getattribute__" ⟨[a, b], []⟩ := by unfold argsOk; kernel_rfl
theorem ms_call {tk : Tok} {R : Result → Shared → Prop} (hx : h.get? a = some o) (hc : o.cls = .type "re.Match") (hd : o.data = .fields vs) (h0 : vs[0]? = some a0) (hq : R (.ok (.ret a0)) ⟨h, g, d, t, os⟩) :
    codeAny (model prog w) A (.call (.builtin "object.__getattribute__") ⟨[.ref a, .str "string" tk], []⟩) R ⟨h, g, d, t, os⟩ :=
  codeAny_call_builtin slot_mga.plain F.entry_object_getattribute (slot_mga.check _ _ _ _ _ _ _ _ (show (⟨h, g, d, t, os⟩ : Shared).TypeIs (.ref a) "re.Match" from ⟨_, hx, hc⟩) (args_oga _ _) (ms_entry hx hc hd h0 hq))
theorem ms_by {tk : Tok} {fill expr : Bool} {x0 : Str} {t0 : Tok} {Q : Value → Shared → Prop} (hx : h.get? a = some o) (hc : o.cls = .type "re.Match") (hd : o.data = .fields vs) (h0 : vs[0]? = some (.str x0 t0))
    (hq : Q (.str x0 t0) ⟨h, g, d, t, os⟩) : wpAny (model prog w) A (getAttrBy (.ref a) (.str "string" tk) fill expr) Q E ⟨h, g, d, t, os⟩ := by
  have hT : (⟨h, g, d, t, os⟩ : Shared).TypeIs (.ref a) "re.Match" := ⟨_, hx, hc⟩
  have f2 := slot_mga.lookup
  have f3 := slot_mga.bind (.ref a)
  have hx0 : (expr && onTheHeap (Value.builtin "object.__getattribute__")) = false := by cases expr <;> rfl
  repeat (any_goals (first | assumption | wp_step))
  refine ms_call hx hc hd h0 ?_
  repeat (any_goals (first | assumption | wp_step))
theorem ms_attr {expr : Bool} {x0 : Str} {t0 : Tok} {Q : Value → Shared → Prop} (hx : h.get? a = some o) (hc : o.cls = .type "re.Match") (hd : o.data = .fields vs) (h0 : vs[0]? = some (.str x0 t0))
    (hq : Q (.str x0 t0) ⟨h, g, d, t + 1, os⟩) : wpAny (model prog w) A (getAttr (.ref a) "string" expr) Q E ⟨h, g, d, t, os⟩ := by
  unfold getAttr
  repeat (any_goals (first | assumption | with_reducible apply ms_by hx hc hd h0 | wp_step))
end
theorem GetA.string {x : Str} {i j : Nat} : GetA Z D (.mtch x i j) "string" σ (.str x) σ := by
  intro expr A s ρ v ok r1
  apply RepV.elim r1; intro _ _ _ _ _ _ _ e e2
  revert e e2; intro e e2
  obtain ⟨hh, g, d, tk, os⟩ := s
  exact ms_attr e rfl rfl rfl (Post.now ok _ (.str _ _))
end
end Mine

namespace Mine
open PySem PySem.W PyProof.Rows PySem.Calls

section
variable {Z : Zt} {D : Nat} {κ : Ctx} {loc : Loc} {σ σ' σ₁ : List SObj}

-- sets of ints
theorem idx_lt' {α : Type} {l : List α} {i : Nat} {a : α} (e : l[i]? = some a) : i < l.length := (List.getElem?_eq_some_iff.mp e).1
theorem Call.set0 : Call Z D (.fix (.type "set")) [] σ (.obj σ.length) (σ ++ [.set []]) := .zero fun A s ρ ok => by
  refine call_set_0 fun led => ?_
  exact Post.push (o := .set []) ok _ (get_size_none _) (fun b o q => Heap.get?_push_of_some _ q) (fun M => .set (Heap.get?_push_size _ rfl) ⟨rfl, rfl, rfl⟩ rfl rfl (fun i x e => by simp at e) rfl) fun q M => .obj q

theorem RelH.setAt {ρ : List Addr} {s : Shared} (r : RelH Z ρ σ s) {i : Nat} {xs : List Int} {v : Value} (e : σ[i]? = some (.set xs)) (hv : RepV ρ s.heap (.obj i) v) :
    ∃ a o es ep t, v = .ref a ∧ ρ[i]? = some a ∧ s.heap.get? a = some o ∧ o.ExactSet ∧ o.data = .set es ep t ∧ es.size = xs.length ∧ (∀ (i : Nat) (x : Int), xs[i]? = some x → ∃ tk, es[i]? = some (hashInt x, .int x tk)) ∧ t.fits es.size = true := by
  apply r.atE e hv; intro a e2 _ _ _ _ h1 h2 h3 h4 h5 h6
  exact ⟨a, _, _, _, _, rfl, e2, h1, h2, h3, h4, h5, h6⟩
theorem setOf_nil {h : Heap} {a : Addr} {o : Obj} {es : Array (Int × Value)} {ep : Nat} {t : SetTable} (h1 : h.get? a = some o) (h2 : o.ExactSet) (h3 : o.data = .set es ep t) (h4 : es.size = 0) (h6 : t.fits es.size = true) : h.SetOf (intKind Z.prog Z.w) a (fun _ => false) 0 := by
  have : es = #[] := Array.eq_empty_of_size_eq_zero h4
  subst this
  exact ⟨o, #[], ep, t, h1, h2, h3, fun e he => by simp at he, fun k => by simp, by decide, h6, rfl⟩
theorem OpC.inSet0 {w : Int} {i : Nat} (e : σ[i]? = some (.set [])) : OpC Z D .In (.int w) (.obj i) σ (.bool false) σ := by
  intro A s ρ v u ok r1 r2
  obtain ⟨a, o, es, ep, t, rfl, ha, h1, h2, h3, h4, h5, h6⟩ := ok.rel.setAt e r2
  apply RepV.elim r1; intro _
  exact wpAny_inSet_of (knd := intKind Z.prog Z.w) (intKind_is _ _ _ _) rfl (setOf_nil h1 h2 h3 h4 h6) (Post.now ok _ (.bool _))

theorem noBool_set : typeLookup (.type "set") "__bool__" = pure none := by rw [typeLookup_type, builtinLookup_eq_fast]; kernel_rfl
theorem Tru.set {i : Nat} {xs : List Int} (e : σ[i]? = some (.set xs)) (hl : xs.length < 2 ^ 60) : Tru Z D (.obj i) σ ((xs.length : Int) != 0) σ := by
  intro A s ρ v ok r1
  obtain ⟨a, o, es, ep, t, rfl, ha, h1, h2, h3, h4, h5, h6⟩ := ok.rel.setAt e r1
  have hT : s.TypeIs (.ref a) "set" := ⟨o, h1, h2.1⟩
  have key : wpAny (model Z.prog Z.w) A (runValue (.builtin "len" ⟨[.ref a], []⟩)) (fun r s' => r = .int es.size (s.toks + 1) ∧ s' = { s with toks := s.toks + 1 + 1 }) bot s := by
    refine wpAny_runValue (codeAny_builtin entry_len ?_)
    rw [Around.under_plainId plain_len _]
    exact wpAny_mono (wpAny_len_body_set (Q := fun r s' => r = .int es.size (s.toks + 1) ∧ s' = { s with toks := s.toks + 1 + 1 }) h1 h2 h3 h6 (by (first | lia | omega)) ⟨rfl, rfl⟩)
      (fun fin s' h' => by obtain ⟨r, rfl, hq⟩ := h'; exact hq) fun _ _ e => e
  unfold truthy
  first
    | refine wpAny_bind (wpAny_callSpecial?_none (name := Str.ofString "__bool__") hT noBool_set ?_)
    | refine wpAny_bind (wpAny_pure (wpAny_bind (wpAny_callSpecial?_none (name := Str.ofString "__bool__") hT noBool_set ?_)))
  first
    | refine wpAny_bind (wpAny_specialOf (name := Str.ofString "__len__") hT F.slot_set_len.lookup ?_)
    | refine wpAny_bind (wpAny_pure (wpAny_bind (wpAny_specialOf (name := Str.ofString "__len__") hT F.slot_set_len.lookup ?_)))
  have fin : (((es.size : Nat) : Int) != 0) = ((xs.length : Int) != 0) := by rw [h4]
  first
    | exact wpAny_bind (wpAny_mono key (fun r s' h' => by obtain ⟨rfl, rfl⟩ := h'; exact wpAny_pure (Post.now ok _ fin)) fun _ _ e => e)
    | exact wpAny_bind (wpAny_pure (wpAny_bind (wpAny_mono key (fun r s' h' => by obtain ⟨rfl, rfl⟩ := h'; exact wpAny_pure (Post.now ok _ fin)) fun _ _ e => e)))

theorem inMain (hc : ∃ (c : Addr) (o : Obj) (vs : Array Value), κ.cd = .ref c ∧ Z.H0.get? c = some o ∧ o.data = .fields vs) {A : Around} {s : Shared} {ρ : List Addr} {env : Env} {Q : Bool → Shared → Prop} (rel : RelH Z ρ σ s) (f : FrH Z κ env ρ loc s) (h : ∀ b, Q b s) : wpAny (model Z.prog Z.w) A (inMainModule env) Q bot s := by
  obtain ⟨c, o, vs, e, ho, hd⟩ := hc
  have ec : env.code = .ref c := f.code.trans e
  unfold inMainModule
  try dsimp only
  rw [ec]
  split
  · exact wpAny_pure (h _)
  · refine wpAny_bind (wpAny_fieldsOf (rel.base _ _ ho) hd ?_)
    split
    · exact wpAny_bind (wpAny_askSetting (wpAny_pure (h _)))
    · exact wpAny_pure (h _)

theorem EvE.set1 (hc : ∃ (c : Addr) (o : Obj) (vs : Array Value), κ.cd = .ref c ∧ Z.H0.get? c = some o ∧ o.data = .fields vs) {e : Expr} {k : Nat} {pos : Pos} {w : Int} (h1 : EvE Z D κ loc (σ ++ [.set []]) e (.int w) (σ ++ [.set []])) (hr : (displayRoad k [e] == .constants) = false) (hu : (displayRoad k [e] == .unsure) = false)
    (he : ∀ env, starEach [e] env = [(false, eval e env)]) : EvE Z D κ loc σ (.Set [e] k pos) (.obj σ.length) (σ ++ [.set [w]]) := fun A s ρ env ok f => by
  rw [arm_eval_Set]
  refine wpAny_bind (wpAny_standAt (wpAny_bind (inMain hc ok.rel f fun b => ?_)))
  rw [he env]
  refine kds_core (ts := [do let v ← eval e env; standAt pos; pure v]) hr rfl (Nat.le_of_ble_eq_true rfl) rfl fun led => ?_
  have p1 : Post Z D A [] ρ s (σ ++ [.set []]) (isV (.obj σ.length)) (.ref s.heap.objs.size) { s with heap := s.heap.push { cls := .type "set", dict := none, data := .set #[] 0 (.fresh 0 0 led) } } :=
    Post.push (o := .set []) ok _ (get_size_none _) (fun b o q => Heap.get?_push_of_some _ q) (fun M => .set (Heap.get?_push_size _ rfl) ⟨rfl, rfl, rfl⟩ rfl rfl (fun i x e => by simp at e) rfl) fun q M => .obj q
  generalize ({ s with heap := s.heap.push { cls := .type "set", dict := none, data := .set #[] 0 (.fresh 0 0 led) } } : Shared) = s₁ at p1 ⊢
  obtain ⟨ρ₁, ok₁, st₁, r₁⟩ := p1
  refine wpAny_evalAll_cons ?_
  refine wpAny_bind (wm (h1 A s₁ ρ₁ env ok₁ (f.step st₁)) fun v s₂ ⟨ρ₂, ok₂, st₂, r₂⟩ => wpAny_bind (wpAny_standAt (wpAny_pure (wpAny_evalAll_nil ?_))))
  refine kds_fill_cons ?_
  obtain ⟨a, o, es, ep, t, q0, ha, g1, g2, g3, g4, g5, g6⟩ := ok₂.rel.setAt (i := σ.length) (xs := []) (by simp) (r₁.mono st₂.mono)
  injection q0 with q0
  subst q0
  apply RepV.elim r₂; intro tk
  unfold setAdd
  refine wpAny_holding (wpAny_bind ((intKind Z.prog Z.w).pyHash (intKind_is _ _ _ _) ?_))
  refine wpAny_setAddHashed_of (s := { s₂ with toks := s₂.toks + 1 }) (intKind_is _ _ _ _) rfl (setOf_nil g1 g2 g3 g4 g6) (by decide) fun h' hsb hS' => ?_
  refine kds_fill_nil hu ?_
  obtain ⟨o', es', ep', t', f1, f2, f3, f4, f5, f6, f7, f8⟩ := hS'
  have hl : es'.size = 1 := by simpa using f8
  have hx : ∃ tk, es'[0]? = some (hashInt w, .int w tk) := by
    obtain ⟨e1, e2⟩ : ∃ e1, es'.toList = [e1] := list1 hl
    have h5 := (f5 w).mp (by simp)
    obtain ⟨x, hx, hk⟩ := h5
    rw [e2, List.mem_singleton] at hx
    subst hx
    obtain ⟨tk, et⟩ := Value.isInt_shape hk
    obtain ⟨⟨k', hk', hh⟩, _⟩ := f4 x (by rw [e2]; exact .head _)
    have : w = k' := by
      obtain ⟨tk', et'⟩ := Value.isInt_shape hk'
      rw [et] at et'; cases et'; rfl
    subst this
    refine ⟨tk, ?_⟩
    rw [← Array.getElem?_toList, e2]
    obtain ⟨x1, x2⟩ := x
    dsimp only at et hh
    rw [et, hh]; rfl
  have p2 : Post Z D A [] ρ₂ s₂ ((σ ++ [SObj.set []]).set σ.length (SObj.set [w])) (isV (.obj σ.length)) (.ref s.heap.objs.size) { s₂ with heap := h', toks := s₂.toks + 1 } :=
    by
      refine Post.set (o := SObj.set [w]) (i := σ.length) ok₂ (s₂.toks + 1) ha hsb.extBut ⟨_, f1⟩ (fun M => RepO.set (xs := [w]) f1 f2 f3 (by rw [hl]; rfl) (fun i x e => ?_) f7) (R := isV (.obj σ.length)) fun M => RepV.obj ha
      obtain rfl : i = 0 := Nat.lt_one_iff.mp (idx_lt' e)
      cases e; exact hx
  have e9 : (σ ++ [SObj.set []]).set σ.length (.set [w]) = σ ++ [.set [w]] := by simp
  rw [e9] at p2
  exact p2.since (st₁.trans st₂)
theorem EvE.dict0 {pos : Pos} : EvE Z D κ loc σ (.Dict [] [] pos) (.obj σ.length) (σ ++ [.dict []]) := fun A s ρ env ok f =>
  wpAny_Dict_empty (Post.push (o := .dict []) ok _ (get_size_none _) (fun b o q => Heap.get?_push_of_some _ q) (fun M => .dict (es := []) (n := 0) (Heap.get?_push_size _ rfl) .nil) fun q M => .obj q)

theorem Meth.setPop {i : Nat} {xs : List Int} (e : σ[i]? = some (.set xs)) : Meth Z D (.obj i) "pop" σ (.fix (.builtin "set.pop")) [.obj i] σ :=
  .builtin (fun s ρ v rel r => by
    obtain ⟨a, o, es, ep, t, rfl, ha, h1, h2, h3, h4, h5, h6⟩ := rel.setAt e r
    exact ⟨⟨o, h1, h2.1⟩, by intro b hb; injection hb with hb; subst hb; exact ⟨_, h1, h2.2.1⟩⟩) F.plainAttrs_set F.slot_set_pop F.type_set_pop

theorem RelH.drawn {ρ : List Addr} {s : Shared} (r : RelH Z ρ σ s) (d : Drawn) : RelH Z ρ σ { s with drawn := d } :=
  ⟨r.len, r.nodup, r.new, r.objs, r.base, r.tabs, r.inTB, r.tb, r.gens, r.os⟩
theorem wpAny_choose {M : Model} {A : Around} {E : Value → Shared → Prop} {s : Shared} {src : Source} {n : Nat} {Q : Nat → Shared → Prop} (hn : n ≠ 0) (h : ∀ i d, i < n → Q i { s with drawn := d }) : wpAny M A (choose src n) Q E s := fun Γ p hΓ => by
  show Sem.wp M Γ (.choose src n .pure) _ _ p s
  rw [Sem.wp_choose]
  exact ⟨hn, h _ _ (Nat.mod_lt _ (Nat.pos_of_ne_zero hn))⟩
theorem fits_popped {t : SetTable} (h : t.fits 1 = true) : (t.popped 0).fits 0 = true := by
  unfold SetTable.fits SetTable.fill at h ⊢
  simp only [Bool.and_eq_true, beq_iff_eq, decide_eq_true_eq] at h ⊢
  obtain ⟨h1, h2⟩ := h
  unfold SetTable.popped SetTable.drop
  have h0 : t.place[0]? = some (t.place[0]'(by (first | lia | omega))) := Array.getElem?_eq_getElem _
  rw [h0]
  simp only [SetTable.eraseAt, SetTable.insertAt, Array.size_append, Array.size_extract, Array.size_push]
  generalize SetTable.below t.dummies _ = b
  simp only [Nat.min_self, Nat.zero_min, Nat.sub_zero, Nat.zero_add, h1, Nat.sub_self, true_and]
  rw [h1] at h2
  have e := Nat.sub_add_min_cancel t.dummies.size b
  rw [Nat.min_comm] at e
  rw [Nat.add_right_comm, Nat.add_comm (min b _), e, Nat.add_comm]
  exact h2
theorem Call.setPop {i : Nat} {w : Int} (e : σ[i]? = some (.set [w])) : Call Z D (.fix (.builtin "set.pop")) [.obj i] σ (.int w) (σ.set i (.set [])) := .one fun A s ρ v ok r1 => by
  obtain ⟨a, o, es, ep, t, rfl, ha, h1, h2, h3, h4, h5, h6⟩ := ok.rel.setAt e r1
  have hT : s.TypeIs (.ref a) "set" := ⟨o, h1, h2.1⟩
  have hz : es.size = 1 := h4
  rw [hz] at h6
  obtain ⟨tk, hx⟩ := h5 0 w rfl
  have hp : t.popPlace = some 0 := by
    unfold SetTable.fits at h6
    simp only [Bool.and_eq_true, beq_iff_eq] at h6
    unfold SetTable.popPlace
    have : t.place.isEmpty = false := by
      unfold Array.isEmpty
      exact decide_eq_false (by (first | lia | omega))
    rw [this]
    simp only [Bool.false_eq_true, if_false]
    split
    · congr 1; (first | lia | omega)
    · rfl
  refine wpAny_call_entry F.slot_set_pop hT F.entry_set_pop ?_ (F.args_set_pop_1 _)
  unfold Builtin.«set.pop» Builtin.Frozenset.noArgs
  refine wpAny_bind (wpAny_bind (wpAny_pure ?_))
  refine wpAny_pure ?_
  have he0 : SetTable.eraseAt es 0 = #[] := Array.eq_empty_of_size_eq_zero (by simp [SetTable.eraseAt]; (first | lia | omega))
  have fin : ∀ (d : Drawn) (Q : Unit → Shared → Prop), (∀ s', Post Z D A [] ρ s (σ.set i (.set [])) (isV (.int w)) (Value.int w tk) s' → Q () s') → wpAny (model Z.prog Z.w) A.in1 (storeSet a (SetTable.eraseAt es 0) (t.popped 0)) Q bot { s with drawn := d } := fun d Q hQ => by
    refine wpAny_storeSet_of h1 h3 (hQ _ ?_) (by rw [he0]; exact Nat.zero_le _)
    have okd : Okh Z D A ρ σ { s with drawn := d } := ⟨ok.depth, ok.units, ok.handled, ok.frames, ok.rel.drawn d⟩
    have p2 : Post Z D A [] ρ { s with drawn := d } (σ.set i (.set [])) (isV (.int w)) (Value.int w tk) { ({ s with drawn := d } : Shared) with heap := s.heap.update a (Obj.putSet (SetTable.eraseAt es 0) (t.popped 0)), toks := s.toks } := by
      obtain ⟨g1, _⟩ := SetOf_store (knd := intKind Z.prog Z.w) (S' := fun _ => false) h1 h2 h3 (es' := SetTable.eraseAt es 0) (t' := t.popped 0) (by intro x hx; have := he0; rw [this] at hx; simp at hx) (by intro k; rw [he0]; simp) (by rw [he0]; decide) (by rw [he0]; exact fits_popped h6)
      refine Post.set (o := SObj.set []) (i := i) okd s.toks ha (Heap.SameBut.update ..).extBut ⟨_, g1⟩ (fun M => RepO.set (xs := []) g1 h2 rfl (by rw [he0]; rfl) (fun i x e => by simp at e) (by rw [he0]; exact fits_popped h6)) (R := isV (.int w)) fun M => RepV.int w tk
    obtain ⟨ρ', k', st', r'⟩ := p2
    exact ⟨ρ', k', ⟨st'.mono, st'.live, st'.keepd⟩, r'⟩
  unfold PySem.setPop
  refine wpAny_bind (wpAny_bind (wpAny_setState_of h1 h3 (by rw [hz]; exact h6) ?_))
  dsimp only
  rw [hp]
  dsimp only
  refine wpAny_bind (wpAny_bind (wpAny_askSetting (wpAny_pure ?_)))
  split
  · rw [hz]
    refine wpAny_bind (wpAny_choose (by decide) fun i d hi => ?_)
    obtain rfl : i = 0 := by (first | lia | omega)
    rw [hx]
    exact wpAny_bind (fin d _ fun s' p => wpAny_pure (wpAny_pure ⟨_, rfl, p⟩))
  · refine wpAny_bind (wpAny_of_pure (a := ()) (Eq.trans (b := (if (!t.led && decide (es.size > 1)) = true then unsupported "set:maker-not-led" else pure ())) rfl (by rw [hz]; simp)) ?_)
    refine wpAny_bind (wpAny_pure ?_)
    rw [hx]
    exact wpAny_bind (fin s.drawn _ fun s' p => wpAny_pure (wpAny_pure ⟨_, rfl, p⟩))
end
end Mine

namespace Mine
open PySem PySem.W PyProof.Rows PySem.Calls
section
variable {Z : Zt} {D : Nat} {κ κ' : Ctx} {loc loc' loc₁ loc₂ loc₃ : Loc} {σ σ' σ₁ σ₂ σ₃ σ₄ : List SObj}
theorem noBool_mtch : typeLookup (.type "re.Match") "__bool__" = pure none := by rw [typeLookup_type, builtinLookup_eq_fast]; kernel_rfl
theorem noLen_mtch : typeLookup (.type "re.Match") "__len__" = pure none := by rw [typeLookup_type, builtinLookup_eq_fast]; kernel_rfl
theorem Tru.mtch {x : Str} {i j : Nat} : Tru Z D (.mtch x i j) σ true σ := by
  intro A s ρ v ok r1
  have hT := TyIs.mtch s ρ v ok.rel r1
  revert hT; apply RepV.elim r1; intro _ _ _ _ _ _ _ e e2 hT
  unfold truthy
  first
    | refine wpAny_bind (wpAny_callSpecial?_none (name := Str.ofString "__bool__") hT noBool_mtch ?_)
    | refine wpAny_bind (wpAny_pure (wpAny_bind (wpAny_callSpecial?_none (name := Str.ofString "__bool__") hT noBool_mtch ?_)))
  first
    | refine wpAny_bind (wpAny_specialOf (name := Str.ofString "__len__") hT noLen_mtch ?_)
    | refine wpAny_bind (wpAny_pure (wpAny_bind (wpAny_specialOf (name := Str.ofString "__len__") hT noLen_mtch ?_)))
  exact wpAny_pure (Post.now0 ok rfl)
theorem XC.inSet0 {w : Int} {i : Nat} (e : σ[i]? = some (.set [])) : XC Z D .In (.int w) (.obj i) σ false σ := ⟨.inSet0 e⟩
theorem XTr.set {i : Nat} {xs : List Int} (e : σ[i]? = some (.set xs)) (hl : xs.length < 2 ^ 60) : XTr Z D (.obj i) σ ((xs.length : Int) != 0) σ := ⟨.set e hl⟩
theorem XTr.mtch {x : Str} {i j : Nat} : XTr Z D (.mtch x i j) σ true σ := ⟨.mtch⟩
theorem XM.setPop {i : Nat} {xs : List Int} (e : σ[i]? = some (.set xs)) : XM Z D (.obj i) "pop" σ (.fix (.builtin "set.pop")) [.obj i] σ := ⟨.setPop e⟩
theorem XM.search (W : W39 Z) : XM Z D (.fix (.ref 114)) "search" σ (.fix (.builtin "re.Pattern.search")) [.fix (.ref 114)] σ := ⟨.search W⟩
theorem XM.span {x : Str} {i j : Nat} : XM Z D (.mtch x i j) "span" σ (.fix (.builtin "re.Match.span")) [.mtch x i j] σ := ⟨.span⟩
theorem XM.group {x : Str} {i j : Nat} : XM Z D (.mtch x i j) "group" σ (.fix (.builtin "re.Match.group")) [.mtch x i j] σ := ⟨.group⟩
theorem XK.set0 : XK Z D (.fix (.type "set")) [] σ (.obj σ.length) (σ ++ [.set []]) := ⟨.set0⟩
theorem XK.setPop {i : Nat} {w : Int} (e : σ[i]? = some (.set [w])) : XK Z D (.fix (.builtin "set.pop")) [.obj i] σ (.int w) (σ.set i (.set [])) := ⟨.setPop e⟩
theorem XK.span {x : Str} {i j : Nat} : XK Z D (.fix (.builtin "re.Match.span")) [.mtch x i j, .int 0] σ (.tup [.int i, .int j]) σ := ⟨.span⟩
theorem XK.group {x : Str} {i j : Nat} (hx : x.length ≤ sizeLine) : XK Z D (.fix (.builtin "re.Match.group")) [.mtch x i j, .int 0] σ (.str (cutN x i j)) σ := ⟨.group hx⟩
theorem XK.search (W : W39 Z) {x : Str} {r : Option (Nat × Nat)} (h : endR x = some r) (hx : x.length < 2 ^ 60) : XK Z D (.fix (.builtin "re.Pattern.search")) [.fix (.ref 114), .str x] σ (mOf x r) σ := ⟨.search W h hx⟩
theorem XGA.string {x : Str} {i j : Nat} : XGA Z D (.mtch x i j) "string" σ (.str x) σ := ⟨.string⟩
theorem XE.dict0 {pos : Pos} : XE Z D κ loc σ (.Dict [] [] pos) (.obj σ.length) (σ ++ [.dict []]) := ⟨.dict0⟩
theorem XE.set1 (hc : ∃ (c : Addr) (o : Obj) (vs : Array Value), κ.cd = .ref c ∧ Z.H0.get? c = some o ∧ o.data = .fields vs) {e : Expr} {k : Nat} {pos : Pos} {w : Int} (h1 : XE Z D κ loc (σ ++ [.set []]) e (.int w) (σ ++ [.set []])) (hr : (displayRoad k [e] == .constants) = false) (hu : (displayRoad k [e] == .unsure) = false)
    (he : ∀ env, starEach [e] env = [(false, eval e env)]) : XE Z D κ loc σ (.Set [e] k pos) (.obj σ.length) (σ ++ [.set [w]]) := ⟨.set1 hc h1.h hr hu he⟩
/-- a def's contract, one default at its end -/
theorem CallC.fnD (W : W39 Z) {a : Addr} {fd : FuncData} {body : List Stmt} {names : List Str} {rs : List SV} {f : AF} {ns : List (Str × NameKind)} (F : IsFn Z a fd body) (hbind : ∀ (s : Shared) (ρ : List Addr) (vs : List Value), RelH Z ρ σ s → vs.length = rs.length → BindsTo s fd ⟨vs, []⟩ (names.zip (vs ++ [.bool false]))) (hnl : names.length = (rs ++ [SV.bool false]).length)
    (hns : fd.scope.names = ns) (hcell : ∀ x ∈ ns, x.2 ≠ .cell) (hloc : ∀ n ∈ names, ns.lookup n = some .local) (hnd : names.Nodup) (hl : names.zip (rs ++ [.bool false]) = loc) (h : ∀ κ, Cx κ ns [] → κ.cd = fd.code → ∃ loc', XSs Z D κ loc σ body f loc' σ') : CallC Z (D + 1) (.fix (.ref a)) rs σ (retOf f) σ' := by
  subst hns hl
  obtain ⟨loc', h⟩ := h ⟨fd.qualname, fd.scope, fd.code, []⟩ ⟨rfl, rfl⟩ rfl
  intro A s ρ v vs0 ok r1 rv0
  apply RepV.elim r1
  obtain ⟨o, ho, hd⟩ := F.obj
  have hb := hbind s ρ vs0 ok.rel rv0.1.symm
  have rv : RepVs ρ s.heap (rs ++ [.bool false]) (vs0 ++ [.bool false]) := rv0.append (.cons (.bool false) .nil)
  generalize vs0 ++ [.bool false] = vs at *
  generalize rs ++ [.bool false] = rs at *
  have hmap : (names.zip vs).map (·.1) = names := by
    rw [← List.unzip_fst, List.unzip_zip (by rw [hnl, rv.1])]
  refine codeAny_call_def (fd := fd) (body := body) (binds := names.zip vs) (by have := ok.depth; (first | lia | omega)) (ok.rel.base _ _ ho) hd (W.ok.lim.keeps ok.rel.base) (F.code.keeps ok.rel.base) F.body hb hcell
    (fun x hx => hloc x.1 (by rw [← hmap]; exact List.mem_map_of_mem hx)) (fun h₀ hns hkp => ?_) F.co F.gen F.kind
  have hL : s.heap.get? s.heap.objs.size = none := get_size_none _
  obtain ⟨oL, es, ep, e1, e2, _, _⟩ := id hns
  have rel : RelH Z ρ σ { s with heap := h₀, toks := s.toks + (names.zip vs).length } := ok.rel.grow hkp
  obtain ⟨f1, f2, f3⟩ := ok.rel.fresh hL
  have st1 : Step A [] ρ s ρ { s with heap := h₀, toks := s.toks + (names.zip vs).length } := .of_keep hkp
  have fr : FrH Z ⟨fd.qualname, fd.scope, fd.code, []⟩ (callEnv fd s.heap.objs.size a) ρ (names.zip rs) { s with heap := h₀, toks := s.toks + (names.zip vs).length } :=
    ⟨rfl, F.kind, F.glob, F.bltn, rfl, rfl, rfl, ⟨by show fd.closure = _; rw [F.clos]; rfl, by simp⟩, f1, f2, f3, ⟨_, hns, by
      have := zip_rep (names := names) (rv.mono st1.mono)
      have e : (fun x => (names.zip vs).reverse.lookup x) = fun x => (names.zip vs).lookup x := funext fun x => lookup_rev (by rw [hmap]; exact hnd) x
      rw [e]; exact this⟩⟩
  exact wpAny_mono (h.h _ _ ρ _ (ok.enter (env := callEnv fd s.heap.objs.size a) hkp rel rfl F.kind hL e1 e2) fr) (fun fl s' p => leave_body ok st1 hL rfl p) fun _ _ x => x.elim
theorem XC.isNotM {x : Str} {i j : Nat} : XC Z D .IsNot (.mtch x i j) .none σ true σ := ⟨.isNotNone fun ρ h v r => by apply RepV.elim r; intro _ _ _ _ _ _ _ _ _; rfl⟩
theorem XC.isNotN : XC Z D .IsNot .none .none σ false σ := ⟨.isNotNone fun ρ h v r => by apply RepV.elim r; rfl⟩
end
end Mine

namespace Mine
open PySem PySem.W PyProof.Rows PySem.Calls
section
variable {Z : Zt} {D : Nat} {κ κ' : Ctx} {loc loc' loc₁ loc₂ loc₃ : Loc} {σ σ' σ₁ σ₂ σ₃ σ₄ : List SObj}

theorem cls159 (W : W39 Z) : ClsOk Z 159 where
  ga := by rw [W.K]; kernel_rfl
  gg := by rw [W.K]; kernel_rfl
  hd := by rw [W.K]; kernel_rfl
  sa := by rw [W.K]; kernel_rfl
  over := by rw [W.K]; kernel_rfl
noncomputable def attrs159 : List Str := ["lineno", "instream", "whitespace", "pushback", "read"]
theorem fin159 (W : W39 Z) : ∀ n ∈ attrs159, findIn Z.K (.ref 159) n = some none ∧ takerIn Z.K 159 n = some none := by
  rw [W.K]
  intro n hn
  unfold attrs159 at hn
  simp only [List.mem_cons, List.not_mem_nil, or_false] at hn
  rcases hn with rfl | rfl | rfl | rfl | rfl <;> exact ⟨by kernel_rfl, by kernel_rfl⟩
noncomputable def meths159 : List (Str × Addr) := [("__init__", 135), ("_read_char", 142), ("get_token", 149)]
theorem min159 (W : W39 Z) : ∀ p ∈ meths159, findIn Z.K (.ref 159) p.1 = some (some (.ref p.2)) ∧ typeIn Z.K (.ref p.2) = some (.type "function") := by
  rw [W.K]
  intro n hn
  unfold meths159 at hn
  simp only [List.mem_cons, List.not_mem_nil, or_false] at hn
  rcases hn with rfl | rfl | rfl <;> exact ⟨by kernel_rfl, by kernel_rfl⟩
theorem XGA.own (W : W39 Z) {i : Nat} {fs : List (Str × SV)} {name : Str} {r : SV} (e : σ[i]? = some (.dict fs)) (hl : fs.lookup name = some r) (hn : name ∈ attrs159) (hh : Handed r) : XGA Z D (.inst 159 i) name σ r σ :=
  ⟨.own W.ok (cls159 W) e hl (fin159 W name hn).1 hh⟩
theorem XSA.own (W : W39 Z) {i : Nat} {fs : List (Str × SV)} {name : Str} {r : SV} (e : σ[i]? = some (.dict fs)) (hn : name ∈ attrs159) (hl : (upd fs name r).length ≤ 1000) : XSA Z D (.inst 159 i) name r σ (σ.set i (.dict (upd fs name r))) :=
  ⟨.dict W.ok (cls159 W) e (fin159 W name hn).2 hl⟩
theorem XM.cls (W : W39 Z) {i : Nat} {fs : List (Str × SV)} {name : Str} {f : Addr} (e : σ[i]? = some (.dict fs)) (hl : fs.lookup name = none) (hm : (name, f) ∈ meths159) : XM Z D (.inst 159 i) name σ (.fix (.ref f)) [.inst 159 i] σ :=
  ⟨.cls W.ok (cls159 W) e hl (min159 W _ hm).1 (min159 W _ hm).2⟩
theorem XM.readChar (W : W39 Z) {i : Nat} {fs : List (Str × SV)} (e : σ[i]? = some (.dict fs)) (hl : fs.lookup (Str.ofString "_read_char") = none) : XM Z D (.inst 159 i) "_read_char" σ (.fix (.ref 142)) [.inst 159 i] σ :=
  XM.cls W e hl (by unfold meths159; simp)
theorem XM.getToken (W : W39 Z) {i : Nat} {fs : List (Str × SV)} (e : σ[i]? = some (.dict fs)) (hl : fs.lookup (Str.ofString "get_token") = none) : XM Z D (.inst 159 i) "get_token" σ (.fix (.ref 149)) [.inst 159 i] σ :=
  XM.cls W e hl (by unfold meths159; simp)
theorem XM.own (W : W39 Z) {i : Nat} {fs : List (Str × SV)} {name : Str} {r : SV} (e : σ[i]? = some (.dict fs)) (hl : fs.lookup name = some r) (hn : name ∈ attrs159) (hh : Handed r) : XM Z D (.inst 159 i) name σ r [] σ :=
  ⟨.own W.ok (cls159 W) e hl (fin159 W name hn).1 hh⟩
theorem XGA.bound (W : W39 Z) {i : Nat} {fs : List (Str × SV)} (e : σ[i]? = some (.dict fs)) (hl : fs.lookup (Str.ofString "_read_char") = none) : XGA Z D (.inst 159 i) "_read_char" σ (.meth (.ref 142) (.inst 159 i)) σ :=
  ⟨.bound W.ok (cls159 W) e hl (fun od h => findObj_fn (cls159 W).hd (min159 W (Str.ofString "_read_char", 142) (by unfold meths159; simp)).1 (by rw [W.K]; kernel_rfl) (by rw [W.K]; kernel_rfl) (by decide +kernel) h) (min159 W (Str.ofString "_read_char", 142) (by unfold meths159; simp)).2⟩
theorem makes159 (W : W39 Z) : makesIn Z.K 159 = true := by rw [W.K]; kernel_rfl
theorem XK.iter2 {f : Value} {self : SV} : XK Z D (.fix (.builtin "iter")) [.meth f self, .str (Str.ofString "")] σ (.obj σ.length) (σ ++ [.callIt (.meth f self)]) := ⟨.iter2 rfl⟩
end
end Mine

namespace Mine
open PySem PySem.W PyProof.Rows PySem.Calls
local macro_rules | `(tactic| walk_at "my sz") => `(tactic| first | assumption | unfold Sz; decide | unfold Sz; omega)
local macro_rules | `(tactic| walk_at "my tt") => `(tactic| first | rfl | assumption | exact decide_eq_true (by omega) | exact decide_eq_false (by omega) | simp; done | simp; omega)
local macro_rules | `(tactic| walk_at "my nz") => `(tactic| first | omega | assumption | decide)
local macro_rules | `(tactic| walk_at "my sl") => `(tactic| first | assumption | exact Nat.le_of_ble_eq_true rfl | simp; omega | omega)
local macro_rules | `(tactic| walk_at "my B") => `(tactic| first
  | exact XB.add | exact XB.sub | apply XB.mul; walk_at "my sz"; walk_at "my sz" | apply XB.fdiv; walk_at "my nz"; walk_at "my sz" | apply XB.fmod; walk_at "my nz" | apply XB.shl; walk_at "my nz"; walk_at "my nz"; walk_at "my sz" | apply XB.shr; walk_at "my nz" | exact XB.xor | apply XB.pow; walk_at "my nz"; walk_at "my nz"; walk_at "my nz" | apply XB.adds; walk_at "my sl" | assumption)
local macro_rules | `(tactic| walk_at "my I") => `(tactic| first
  | exact XI.add | apply XI.mul; walk_at "my sz"; walk_at "my sz" | apply XI.fdiv; walk_at "my nz"; walk_at "my sz" | apply XI.adds; walk_at "my sl" | assumption)
local macro_rules | `(tactic| walk_at "my C") => `(tactic| first
  | exact XC.eq | exact XC.ne | exact XC.lt | exact XC.le | exact XC.gt | exact XC.ge | exact XC.eqs | exact XC.nes | exact XC.ins | apply XC.inSet0; rfl | exact XC.isNotM | exact XC.isNotN | assumption)
local macro_rules | `(tactic| walk_at "my U") => `(tactic| first | exact XU.neg | exact XU.inv | apply XU.not; walk_at "my tr" | assumption)
local macro_rules | `(tactic| walk_at "my tr") => `(tactic| first | exact XTr.bool | exact XTr.int | exact XTr.none | apply XTr.list; rfl; walk_at "my nz" | apply XTr.set; rfl; walk_at "my sl" | exact XTr.mtch | assumption)
local macro_rules | `(tactic| walk_at "my G") => `(tactic| first
  | assumption
  | apply XG.listNeg; rfl; walk_at "my nz"; (first | assumption | (simp; omega) | (simp; done)); walk_at "my nz"; (first | assumption | rfl) | apply XG.list; rfl; walk_at "my nz"; walk_at "my nz"; (first | assumption | rfl) | apply XG.tup; decide; decide; rfl; rfl | apply XG.strSlice; walk_at "my sl" | apply XG.listSlice; rfl; walk_at "my sl"; decide | apply XG.str; (first | assumption | rfl); (first | assumption | rfl) | assumption)
local macro_rules | `(tactic| walk_at "my keep") => `(tactic| first | apply KeepSV.fn; assumption; decide | exact .inl ⟨_, rfl⟩ | exact .inr (.inl ⟨_, rfl⟩) | trivial)
local macro_rules | `(tactic| walk_at "my M") => `(tactic| first | apply XM.append; rfl | apply XM.reverse; rfl | exact XM.bitLength | exact XM.rstrip | exact XM.replace | exact XM.count | exact XM.join | exact XM.split | apply XM.setPop; rfl | apply XM.search; assumption | exact XM.span | exact XM.group | apply XM.readChar; assumption; rfl; rfl | apply XM.getToken; assumption; rfl; rfl | apply XM.own; assumption; rfl; rfl; decide +kernel; exact trivial | assumption)
local macro_rules | `(tactic| walk_at "my ga") => `(tactic| first | exact XGA.string | apply XGA.own; assumption; rfl; rfl; decide +kernel; exact trivial | apply XGA.bound; assumption; rfl; rfl | assumption)
local macro_rules | `(tactic| walk_at "my K") => `(tactic| first
  | apply XK.lenList; rfl; walk_at "my nz" | apply XK.lenStr; walk_at "my nz" | exact XK.abs | exact XK.range | apply XK.strInt; walk_at "my sz" | exact XK.strBool
  | apply XK.divmod; walk_at "my nz"; walk_at "my sz" | exact XK.bitLength | apply XK.listOf; rfl; walk_at "my sl" | apply XK.append; rfl; walk_at "my sl" | apply XK.reverse; rfl; walk_at "my sl" | apply XK.rstrip; walk_at "my sl" | exact XK.count | apply XK.join; rfl; assumption | apply XK.split; rfl; walk_at "my sl"; walk_at "my sl" | apply XK.reversed; rfl | apply XK.intText; assumption; assumption | exact XK.set0 | exact XK.iter2 | apply XK.setPop; rfl | exact XK.span | apply XK.group; walk_at "my sl" | apply XK.search; assumption; assumption; assumption | assumption | apply XK.of; assumption)
local macro_rules | `(tactic| walk_at "my e") => `(tactic| first
  | exact XE.int | exact XE.str | exact XE.bool | exact XE.none
  | apply XE.var; assumption; rfl; rfl; rfl | apply XE.free; assumption; rfl; rfl; rfl; rfl; rfl | apply XE.cell; assumption; rfl; rfl; rfl; rfl | apply XE.gl; assumption; assumption; rfl; rfl; rfl | apply XE.bt; assumption; assumption; rfl; rfl; rfl | apply XE.bin; walk_at "my e"; walk_at "my e"; walk_at "my B" | apply XE.una; walk_at "my e"; walk_at "my U" | apply XE.cmp; walk_at "my e"; walk_at "my e"; walk_at "my C"; rfl | apply XE.list; walk_at "my l"; walk_at "my sl" | apply XE.tuple; walk_at "my l"; walk_at "my sl" | apply XE.slice; walk_at "my p"; walk_at "my p"; walk_at "my p" | apply XE.subL; walk_at "my e"; walk_at "my e"; rfl; walk_at "my G"; exact fun _ _ => ⟨_, rfl⟩ | apply XE.subT; walk_at "my e"; walk_at "my e"; walk_at "my G"; exact fun _ _ => ⟨_, rfl⟩ | apply XE.subS; walk_at "my e"; walk_at "my e"; walk_at "my G"; exact fun _ _ => ⟨_, rfl⟩ | apply XE.call; assumption; walk_at "my e"; walk_at "my l"; walk_at "my keep"; walk_at "my K"; exact fun _ => rfl | apply XE.method; assumption; walk_at "my e"; walk_at "my M"; walk_at "my l"; walk_at "my keep"; walk_at "my K"; exact fun _ => rfl; exact fun _ => ⟨_, rfl⟩ | exact XE.dict0
  | apply XE.attr; walk_at "my e"; walk_at "my ga"; exact fun _ => rfl | apply XE.ifTrue; walk_at "my t"; walk_at "my e" | apply XE.ifFalse; walk_at "my t"; walk_at "my e" | apply XE.and2; walk_at "my e"; walk_at "my tr"; walk_at "my e" | assumption)
local macro_rules | `(tactic| walk_at "my p") => `(tactic| first | exact XP.none | apply XP.some; walk_at "my e")
local macro_rules | `(tactic| walk_at "my l") => `(tactic| first | exact XL.nil | apply XL.cons; walk_at "my e"; walk_at "my l"; exact fun _ => rfl)
local macro_rules | `(tactic| walk_at "my t") => `(tactic| first
  | apply XT.cmp; walk_at "my e"; walk_at "my e"; walk_at "my C"; rfl; walk_at "my tt" | apply XT.notT; walk_at "my t" | apply XT.notF; walk_at "my t" | apply XT.or1; walk_at "my t" | apply XT.or2; walk_at "my t"; walk_at "my t" | apply XT.val; walk_at "my e"; walk_at "my tr"; exact fun _ _ => rfl; walk_at "my tt" | assumption)
local macro_rules | `(tactic| walk_at "my upd") => `(tactic| first | exact Upd.new | exact Upd.here | apply Upd.there; rfl; walk_at "my upd")
local macro_rules | `(tactic| walk_at "my a") => `(tactic| first
  | apply XA.var; assumption; rfl; walk_at "my upd" | apply XA.cell; assumption; rfl; rfl; rfl | apply XA.tup; walk_at "my as"; exact fun _ => rfl; rfl; exact fun _ => rfl | apply XA.sub; walk_at "my e"; walk_at "my e"; (first | assumption | (apply XSI.list; rfl; (exact (rfl : (0 : Int) = ((0 : Nat) : Int))); walk_at "my nz"; exact Nat.le_of_ble_eq_true rfl) | (apply XSI.list; rfl; (first | rfl | assumption); walk_at "my nz"; (first | assumption | (simp; omega)))) | apply XA.attr; walk_at "my e"; (first | assumption | (apply XSA.own; assumption; rfl; decide +kernel; exact Nat.le_of_ble_eq_true rfl)))
local macro_rules | `(tactic| walk_at "my as") => `(tactic| first | exact XAs.nil | apply XAs.cons; walk_at "my a"; walk_at "my as")
local macro_rules | `(tactic| walk_at "my s") => `(tactic| first
  | assumption
  | apply XS.ret; walk_at "my e" | exact XS.retNone | exact XS.cont
  | apply XS.assign; walk_at "my e"; walk_at "my a"; exact fun _ => rfl; exact fun _ => rfl; exact fun _ => rfl | apply XS.aug; assumption; rfl; rfl; walk_at "my e"; walk_at "my I"; walk_at "my upd" | apply XS.augAttr; walk_at "my e"; walk_at "my ga"; walk_at "my e"; walk_at "my I"; (first | assumption | (apply XSA.own; assumption; rfl; decide +kernel; exact Nat.le_of_ble_eq_true rfl)) | apply XS.augSub; walk_at "my e"; walk_at "my e"; walk_at "my G"; walk_at "my e"; walk_at "my I"; (first | assumption | (apply XSI.list; rfl; (first | rfl | assumption); walk_at "my nz"; (first | assumption | (simp; omega)))); exact fun _ _ _ => rfl | apply XS.expr; walk_at "my e"; exact fun _ => rfl | apply XS.ifT; walk_at "my t"; walk_at "my ss" | apply XS.ifF; walk_at "my t"; walk_at "my ss")
local macro_rules | `(tactic| walk_at "my ss") => `(tactic| first | exact XSs.nil | apply XSs.cons; walk_at "my s"; walk_at "my ss" | apply XSs.stop; walk_at "my s"; (intro h; cases h))
section
variable {Z : Zt} {D : Nat} {σ σ' : List SObj}

theorem CallC.drop {f r : SV} {args : List SV} {τ : List SObj} (a : CallC Z D f args σ r (σ' ++ τ)) (hl : σ.length ≤ σ'.length)
    (hs : (∀ (i : Nat) (o : SObj), σ[i]? = some o → SObj.Lt σ.length o) → ∀ (i : Nat) (o : SObj), σ'[i]? = some o → SObj.Lt σ'.length o) (hr : SV.Lt σ'.length r) : CallC Z D f args σ r σ' := fun A s ρ v vs ok r1 r2 =>
  codeAny_mono (a A s ρ v vs ok r1 r2) fun rr s' q => by
    cases rr with
    | error e => exact q
    | ok fl =>
    cases fl with
    | ret x =>
      obtain ⟨ρ', ok', st, rx⟩ := q
      have rel := ok'.rel.drop (hs ok.rel.scoped)
      obtain ⟨u, e, hu⟩ := st.mono.pre
      have h1 : ρ.length ≤ σ'.length := by rw [ok.rel.len]; exact hl
      have e2 : ρ'.take σ'.length = ρ ++ u.take (σ'.length - ρ.length) := by rw [e, List.take_append, List.take_of_length_le h1]
      have hlen : σ'.length ≤ ρ'.length := by rw [ok'.rel.len]; simp
      have st' : Step A [] ρ s (ρ'.take σ'.length) s' := ⟨⟨⟨_, e2, fun a ha => hu a (List.mem_of_mem_take ha)⟩, st.mono.keep⟩, st.live, st.keepd⟩
      exact ⟨ρ'.take σ'.length, ok.after st' rel, st', rx.take hr hlen⟩
    | _ => exact q
/-- the state is what it was, and more -/
theorem CallC.drop0 {f r : SV} {args : List SV} {τ : List SObj} (a : CallC Z D f args σ r (σ ++ τ)) (hr : SV.Lt σ.length r) : CallC Z D f args σ r σ := a.drop (Nat.le_refl _) (fun h => h) hr
theorem CallC.drop0' {f r : SV} {args : List SV} (σ₁ : List SObj) (a : CallC Z D f args σ r σ₁) (τ : List SObj) (e : σ₁ = σ ++ τ) (hr : SV.Lt σ.length r) : CallC Z D f args σ r σ := by
  subst e; exact a.drop0 hr

theorem Sz.sub1 {a : Int} (h : Sz a) (h0 : 0 ≤ a) : Sz (a - 1) := by unfold Sz at *; omega
theorem Sz.add1 {a : Int} (h : a.natAbs < 2 ^ 999) : Sz (a + 1) := by unfold Sz; omega

/-- the least next unit -/
noncomputable def least (row : List Int) (way : Int) (last : Bool) : Int :=
  match row.getLast? with
  | none => if way > 0 then 1 else 2
  | some u => if way < 0 then u * (u - 1) + 1 else u * (u + 1) + (if last then 1 else 0)

theorem c_least_nil (W : W39 Z) (hD : 1 ≤ D) {way : Int} {last : Bool} : CallC Z D (.fix (.ref 198)) [.obj 0, .int way, .bool last] [.list []] (.int (if way > 0 then 1 else 2)) [.list []] := by
  obtain ⟨D, rfl⟩ : ∃ k, D = k + 1 := ⟨D - 1, by omega⟩
  have F := isFn_of W (a := 198) rfl rfl rfl rfl rfl rfl rfl rfl rfl rfl rfl
  by_cases hw : way > 0
  · rw [if_pos hw]
    refine CallC.drop0' [.list [], .list []] ?_ [.list []] rfl (.int _)
    refine CallC.def (f := .ret (.int 1)) (names := ["row", "way", "last"]) (loc := [("row", .obj 0), ("way", .int way), ("last", .bool last)]) W F (fun vs h => by obtain ⟨a, b, c, rfl⟩ := list3 h; rfl) rfl rfl (by decide +kernel) (by decide +kernel) (by decide +kernel) rfl fun κ C => ?_
    clear F
    have heq : XC Z D .Eq (.obj 0) (.obj 1) [.list [], .list []] true [.list [], .list []] := ⟨fun A s ρ v u ok r1 r2 => by
      apply RelH.listE ok.rel (xs := []) rfl r1; intro a vs m ha e hr
      apply RelH.listE ok.rel (xs := []) rfl r2; intro b us m' hb e' hr'
      obtain rfl := hr.unnil
      obtain rfl := hr'.unnil
      exact SeqAt.eq_listAt (e := fun _ => true) (isList_of e) (isList_of e') rfl (by have := ok.u (n := 0) (by omega); omega) (fun j h1 h2 => by simp at h1) (Post.now0 ok (.bool _))⟩
    apply Exists.intro
    walk_at "my ss"
  · rw [if_neg hw]
    refine CallC.drop0' [.list [], .list []] ?_ [.list []] rfl (.int _)
    refine CallC.def (f := .ret (.int 2)) (names := ["row", "way", "last"]) (loc := [("row", .obj 0), ("way", .int way), ("last", .bool last)]) W F (fun vs h => by obtain ⟨a, b, c, rfl⟩ := list3 h; rfl) rfl rfl (by decide +kernel) (by decide +kernel) (by decide +kernel) rfl fun κ C => ?_
    clear F
    have heq : XC Z D .Eq (.obj 0) (.obj 1) [.list [], .list []] true [.list [], .list []] := ⟨fun A s ρ v u ok r1 r2 => by
      apply RelH.listE ok.rel (xs := []) rfl r1; intro a vs m ha e hr
      apply RelH.listE ok.rel (xs := []) rfl r2; intro b us m' hb e' hr'
      obtain rfl := hr.unnil
      obtain rfl := hr'.unnil
      exact SeqAt.eq_listAt (e := fun _ => true) (isList_of e) (isList_of e') rfl (by have := ok.u (n := 0) (by omega); omega) (fun j h1 h2 => by simp at h1) (Post.now0 ok (.bool _))⟩
    apply Exists.intro
    walk_at "my ss"

theorem c_least_cons (W : W39 Z) (hD : 1 ≤ D) {way u : Int} {last : Bool} {L : List SV} (hL : L ≠ []) (hx : L[((-1 : Int) + (L.length : Int)).toNat]? = some (.int u)) (hu : u.natAbs < 2 ^ 999) (h0 : 0 ≤ u) :
    CallC Z D (.fix (.ref 198)) [.obj 0, .int way, .bool last] [.list L] (.int (if way < 0 then u * (u - 1) + 1 else u * (u + 1) + (if last then 1 else 0))) [.list L] := by
  obtain ⟨D, rfl⟩ : ∃ k, D = k + 1 := ⟨D - 1, by omega⟩
  have F := isFn_of W (a := 198) rfl rfl rfl rfl rfl rfl rfl rfl rfl rfl rfl
  have hl : L.length ≠ ([] : List SV).length := by intro h; exact hL (List.length_eq_zero_iff.mp h)
  have hl1 : -(L.length : Int) ≤ -1 := by have : L.length ≠ 0 := hl; omega
  have z1 : Sz u := by unfold Sz; omega
  have z2 := z1.sub1 h0
  have z3 : Sz (u + 1) := Sz.add1 hu
  have heq : XC Z D .Eq (.obj 0) (.obj 1) [.list L, .list []] false [.list L, .list []] := ⟨OpC.eqLens rfl rfl hl⟩
  by_cases hw : way < 0
  · rw [if_pos hw]
    refine CallC.drop0' [.list L, .list []] ?_ [.list []] rfl (.int _)
    refine CallC.def (f := .ret (.int (u * (u - 1) + 1))) (names := ["row", "way", "last"]) (loc := [("row", .obj 0), ("way", .int way), ("last", .bool last)]) W F (fun vs h => by obtain ⟨a, b, c, rfl⟩ := list3 h; rfl) rfl rfl (by decide +kernel) (by decide +kernel) (by decide +kernel) rfl fun κ C => ?_
    clear F
    apply Exists.intro
    walk_at "my ss"
  · rw [if_neg hw]
    refine CallC.drop0' [.list L, .list []] ?_ [.list []] rfl (.int _)
    cases last with
    | true =>
      refine CallC.def (f := .ret (.int (u * (u + 1) + 1))) (names := ["row", "way", "last"]) (loc := [("row", .obj 0), ("way", .int way), ("last", .bool true)]) W F (fun vs h => by obtain ⟨a, b, c, rfl⟩ := list3 h; rfl) rfl rfl (by decide +kernel) (by decide +kernel) (by decide +kernel) rfl fun κ C => ?_
      clear F
      apply Exists.intro
      walk_at "my ss"
    | false =>
      refine CallC.def (f := .ret (.int (u * (u + 1) + 0))) (names := ["row", "way", "last"]) (loc := [("row", .obj 0), ("way", .int way), ("last", .bool false)]) W F (fun vs h => by obtain ⟨a, b, c, rfl⟩ := list3 h; rfl) rfl rfl (by decide +kernel) (by decide +kernel) (by decide +kernel) rfl fun κ C => ?_
      clear F
      apply Exists.intro
      walk_at "my ss"
end
section
variable {Z : Zt} {D : Nat} {σ σ' : List SObj} {κ : Ctx}

theorem loop_list {target : Expr} {body : List Stmt} {i j : Nat} {xs : List SV} (inv : Nat → Loc) (st : Nat → List SObj) (h1 : ∀ k, k ≤ xs.length → (st k)[i]? = some (.list xs) ∧ (st k)[j]? = some (.listIt i k))
    (step : ∀ k x, xs[k]? = some x → ∃ loc₁ σ₁ ext, XA Z D κ (inv k) ((st k).set j (.listIt i (k + 1))) target x loc₁ σ₁ ∧ XSs Z D κ loc₁ σ₁ body .next (inv (k + 1) ++ ext) (st (k + 1))) :
    ∀ n k, k + n = xs.length → LoopF Z D κ target body (.obj j) n (inv k) (st k) .next (inv xs.length) ((st xs.length).set j .junk)
  | 0, k, h => by
    have : k = xs.length := by omega
    subst this
    obtain ⟨a, b⟩ := h1 _ (Nat.le_refl _)
    exact .stop (.listEnd a b (by simp))
  | n + 1, k, h => by
    obtain ⟨a, b⟩ := h1 k (by omega)
    have hx : xs[k]? = some (xs[k]'(by omega)) := List.getElem?_eq_getElem (by omega)
    obtain ⟨loc₁, σ₁, ext, s1, s2⟩ := step k _ hx
    exact .turn (.list a b hx) s1.h (s2.forget ext).h (.inl rfl) (loop_list inv st h1 step n (k + 1) (by omega))

theorem loop_range {target : Expr} {body : List Stmt} {j N : Nat} (inv : Nat → Loc) (st : Nat → List SObj) (h1 : ∀ k, k ≤ N → (st k)[j]? = some (.rangeIt k ((N : Int) - k)))
    (step : ∀ k, k < N → ∃ loc₁ σ₁ ext, XA Z D κ (inv k) ((st k).set j (.rangeIt ((k : Int) + 1) ((N : Int) - k - 1))) target (.int k) loc₁ σ₁ ∧ XSs Z D κ loc₁ σ₁ body .next (inv (k + 1) ++ ext) (st (k + 1))) :
    ∀ n k, k + n = N → LoopF Z D κ target body (.obj j) n (inv k) (st k) .next (inv N) ((st N).set j .junk)
  | 0, k, h => by
    have : k = N := by omega
    subst this
    exact .stop (.rangeEnd (h1 _ (Nat.le_refl _)) (by omega))
  | n + 1, k, h => by
    obtain ⟨loc₁, σ₁, ext, s1, s2⟩ := step k (by omega)
    exact .turn (.range (h1 k (by omega)) (by omega)) s1.h (s2.forget ext).h (.inl rfl) (loop_range inv st h1 step n (k + 1) (by omega))

theorem loop_rev {target : Expr} {body : List Stmt} {i j : Nat} {xs : List SV} (inv : Nat → Loc) (st : Nat → List SObj) (h1 : ∀ k, k ≤ xs.length → (st k)[i]? = some (.list xs) ∧ (st k)[j]? = some (.revIt i ((xs.length : Int) - 1 - k)))
    (step : ∀ k x, k < xs.length → xs[xs.length - 1 - k]? = some x → ∃ loc₁ σ₁ ext, XA Z D κ (inv k) ((st k).set j (.revIt i ((xs.length : Int) - 1 - (k + 1 : Nat)))) target x loc₁ σ₁ ∧ XSs Z D κ loc₁ σ₁ body .next (inv (k + 1) ++ ext) (st (k + 1))) :
    ∀ n k, k + n = xs.length → LoopF Z D κ target body (.obj j) n (inv k) (st k) .next (inv xs.length) ((st xs.length).set j .junk)
  | 0, k, h => by
    have : k = xs.length := by omega
    subst this
    obtain ⟨a, b⟩ := h1 _ (Nat.le_refl _)
    rw [show (xs.length : Int) - 1 - (xs.length : Nat) = -1 from by omega] at b
    exact .stop (.revEnd b)
  | n + 1, k, h => by
    obtain ⟨a, b⟩ := h1 k (by omega)
    have hx : xs[xs.length - 1 - k]? = some (xs[xs.length - 1 - k]'(by omega)) := List.getElem?_eq_getElem (by omega)
    obtain ⟨loc₁, σ₁, ext, s1, s2⟩ := step k _ (by omega) hx
    rw [show (xs.length : Int) - 1 - k = ((xs.length - 1 - k : Nat) : Int) from by omega] at b
    have hn := Nxt.rev (Z := Z) (D := D) a b hx
    rw [show ((xs.length - 1 - k : Nat) : Int) - 1 = (xs.length : Int) - 1 - (k + 1 : Nat) from by omega] at hn
    exact .turn hn s1.h (s2.forget ext).h (.inl rfl) (loop_rev inv st h1 step n (k + 1) (by omega))

theorem iv_get {xs : List Int} {k : Nat} {x : SV} (h : (iv xs)[k]? = some x) : ∃ i, x = .int i ∧ xs[k]? = some i := by
  unfold iv at h
  rw [List.getElem?_map] at h
  obtain ⟨i, e, rfl⟩ := Option.map_eq_some_iff.mp h
  exact ⟨i, rfl, e⟩
theorem iv_len (xs : List Int) : (iv xs).length = xs.length := by simp [iv]

/-- the units' product -/
noncomputable def prodL (row : List Int) (f : Int) : Int := row.foldl (fun a u => a * u) f
theorem prodL_take {row : List Int} {f u : Int} {k : Nat} (h : row[k]? = some u) : prodL (row.take (k + 1)) f = prodL (row.take k) f * u := by
  unfold prodL
  rw [List.take_add_one, h, List.foldl_append]
  rfl

theorem c_product (W : W39 Z) (hD : 1 ≤ D) {row : List Int} {f : Int} (h1 : ∀ k, Sz (prodL (row.take k) f)) (h2 : ∀ u ∈ row, Sz u) : CallC Z D (.fix (.ref 217)) [.obj 0, .int f] [.list (iv row)] (.int (prodL row f)) [.list (iv row)] := by
  obtain ⟨D, rfl⟩ : ∃ k, D = k + 1 := ⟨D - 1, by omega⟩
  have F := isFn_of W (a := 217) rfl rfl rfl rfl rfl rfl rfl rfl rfl rfl rfl
  refine CallC.drop0' [.list (iv row), .junk] ?_ [.junk] rfl (.int _)
  refine CallC.def (f := .ret (.int (prodL row f))) (names := ["row", "factor"]) (loc := [("row", .obj 0), ("factor", .int f)]) W F (fun vs h => by obtain ⟨a, b, rfl⟩ := list2 h; rfl) rfl rfl (by decide +kernel) (by decide +kernel) (by decide +kernel) rfl fun κ C => ?_
  clear F
  dsimp only at C
  apply Exists.intro
  apply XSs.cons
  · apply XS.for
    · walk_at "my e"
    · exact ⟨.list rfl⟩
    · refine loop_list (i := 0) (j := 1) (xs := iv row) (fun k => [("row", .obj 0), ("factor", .int (prodL (row.take k) f))]) (fun k => [.list (iv row), .listIt 0 k]) (fun k _ => ⟨rfl, rfl⟩) (fun k x hx => ?_) (iv row).length 0 (by simp)
      obtain ⟨u, rfl, hu⟩ := iv_get hx
      have z1 := h1 k
      have z2 := h2 u (List.mem_of_getElem? hu)
      refine ⟨_, _, [("unit", .int u)], XA.var C rfl (by walk_at "my upd"), ?_⟩
      rw [prodL_take (f := f) hu]
      walk_at "my ss"
    · exact fun _ _ => rfl
    · exact fun _ _ => rfl
  · rw [iv_len, List.take_length]
    walk_at "my ss"
end
section
variable {Z : Zt} {D : Nat} {σ σ' σ₂ : List SObj} {κ : Ctx}

/-- a contract that leaves the state as it is, elsewhere -/
theorem CallC.at {f f₂ r r₂ : SV} {args args₂ : List SV} (es : List Nat) (h : CallC Z D f args σ r σ) (hnd : es.Nodup) (hin : Emb es σ₂ σ es) (hf : RenV es f f₂) (ha : RenVs es args args₂) (hr : RenV es r r₂) : CallC Z D f₂ args₂ σ₂ r₂ σ₂ := by
  refine h.frame hnd hin hf ha (Nat.le_refl _) ?_ (fun _ _ _ => rfl) ?_
  · simpa using hin
  · simpa using hr
theorem CallC.any {f r : SV} {args : List SV} (h : CallC Z D f args [] r []) (hf : SV.Lt 0 f) (ha : ∀ x ∈ args, SV.Lt 0 x) (hr : SV.Lt 0 r) : CallC Z D f args σ r σ :=
  h.at [] .nil .nil (.closed hf) (.closed ha) (.closed hr)
theorem CallC.new {f : SV} {args L : List SV} (h : CallC Z D f args [] (.obj 0) [.list L]) (hf : SV.Lt 0 f) (ha : ∀ x ∈ args, SV.Lt 0 x) (hL : ∀ x ∈ L, SV.Lt 0 x) : CallC Z D f args σ (.obj σ.length) (σ ++ [.list L]) := by
  have e : ([] : List Nat) ++ List.range' σ.length ((σ ++ [SObj.list L]).length - σ.length) = [σ.length] := by simp
  refine h.frame .nil .nil (.closed hf) (.closed ha) (by simp) ?_ (fun j hj _ => by simp [List.getElem?_append, hj]) ?_
  · rw [e]; exact .cons (o₂ := .list L) (by simp) (.list (.closed hL)) .nil
  · rw [e]; exact .obj rfl
/-- with one list of closed values -/
theorem CallC.list1 {f r : SV} {args args₂ L : List SV} {i : Nat} (h : CallC Z D f args [.list L] r [.list L]) (e : σ₂[i]? = some (.list L)) (hL : ∀ x ∈ L, SV.Lt 0 x) (hf : SV.Lt 0 f) (ha : RenVs [i] args args₂) (hr : SV.Lt 0 r) : CallC Z D f args₂ σ₂ r σ₂ :=
  h.at [i] (by simp) (.cons e (.list (.closed hL)) .nil) (.closed hf) ha (.closed hr)
theorem RenVs.obj1 {i : Nat} {xs : List SV} (h : ∀ x ∈ xs, SV.Lt 0 x) : RenVs [i] (.obj 0 :: xs) (.obj i :: xs) := .cons (.obj rfl) (.closed h)

theorem iv_lt {xs : List Int} : ∀ x ∈ iv xs, SV.Lt 0 x := fun x h => by
  unfold iv at h
  obtain ⟨i, _, rfl⟩ := List.mem_map.mp h
  exact .int i

theorem iv_append {xs ys : List Int} : iv (xs ++ ys) = iv xs ++ iv ys := by simp [iv]

/-- the sum's step -/
noncomputable def sumSt (way under : Int) (p : Int × Int) (u : Int) : Int × Int := (p.1 + p.2 * under.fdiv u, p.2 * -way)
noncomputable def sumP (row : List Int) (way under : Int) : Int × Int := row.foldl (sumSt way under) (0, 1)
noncomputable def sumL (row : List Int) (way under : Int) : Int := (sumP row way under).1
theorem sumP_take {row : List Int} {way under u : Int} {k : Nat} (h : row[k]? = some u) : sumP (row.take (k + 1)) way under = sumSt way under (sumP (row.take k) way under) u := by
  unfold sumP
  rw [List.take_add_one, h, List.foldl_append]
  rfl
theorem sumP_sign {row : List Int} {way under : Int} (hw : way = 1 ∨ way = -1) : ∀ p : Int × Int, (p.2 = 1 ∨ p.2 = -1) → (row.foldl (sumSt way under) p).2 = 1 ∨ (row.foldl (sumSt way under) p).2 = -1 := by
  induction row with
  | nil => exact fun p h => h
  | cons u r ih => intro p h; exact ih _ (by rcases hw with rfl | rfl <;> rcases h with h | h <;> simp [sumSt, h])

theorem c_sum (W : W39 Z) (hD : 1 ≤ D) {row : List Int} {way under : Int} (hw : way = 1 ∨ way = -1) (h1 : ∀ u ∈ row, u ≠ 0 ∧ Sz u ∧ Sz (under.fdiv u)) : CallC Z D (.fix (.ref 224)) [.obj 0, .int way, .int under] [.list (iv row)] (.int (sumL row way under)) [.list (iv row)] := by
  obtain ⟨D, rfl⟩ : ∃ k, D = k + 1 := ⟨D - 1, by omega⟩
  have F := isFn_of W (a := 224) rfl rfl rfl rfl rfl rfl rfl rfl rfl rfl rfl
  refine CallC.drop0' [.list (iv row), .junk] ?_ [.junk] rfl (.int _)
  refine CallC.def (f := .ret (.int (sumL row way under))) (names := ["row", "way", "under"]) (loc := [("row", .obj 0), ("way", .int way), ("under", .int under)]) W F (fun vs h => by obtain ⟨a, b, c, rfl⟩ := list3 h; rfl) rfl rfl (by decide +kernel) (by decide +kernel) (by decide +kernel) rfl fun κ C => ?_
  clear F
  dsimp only at C
  apply Exists.intro
  apply XSs.cons
  · walk_at "my s"
  apply XSs.cons
  · walk_at "my s"
  apply XSs.cons
  · apply XS.for
    · walk_at "my e"
    · exact ⟨.list rfl⟩
    · refine loop_list (i := 0) (j := 1) (xs := iv row) (fun k => [("row", .obj 0), ("way", .int way), ("under", .int under), ("over", .int (sumP (row.take k) way under).1), ("sign", .int (sumP (row.take k) way under).2)]) (fun k => [.list (iv row), .listIt 0 k]) (fun k _ => ⟨rfl, rfl⟩) (fun k x hx => ?_) (iv row).length 0 (by simp)
      obtain ⟨u, rfl, hu⟩ := iv_get hx
      obtain ⟨n0, z1, z2⟩ := h1 u (List.mem_of_getElem? hu)
      have hs : (sumP (row.take k) way under).2 = 1 ∨ (sumP (row.take k) way under).2 = -1 := sumP_sign hw _ (.inl rfl)
      have z3 : Sz (sumP (row.take k) way under).2 := by unfold Sz; rcases hs with e | e <;> rw [e] <;> decide
      have z4 : Sz (-way) := by unfold Sz; rcases hw with e | e <;> rw [e] <;> decide
      refine ⟨_, _, [("unit", .int u)], XA.var C rfl (by walk_at "my upd"), ?_⟩
      rw [sumP_take (way := way) (under := under) hu]
      walk_at "my ss"
    · exact fun _ _ => rfl
    · exact fun _ _ => rfl
  · rw [iv_len, List.take_length]
    walk_at "my ss"
end
section
variable {Z : Zt} {D : Nat} {σ σ' σ₂ : List SObj} {κ : Ctx}

theorem iv_getLast {L : List Int} (h : L ≠ []) : ∃ u, L.getLast? = some u ∧ (iv L)[((-1 : Int) + ((iv L).length : Int)).toNat]? = some (.int u) := by
  refine ⟨L.getLast h, List.getLast?_eq_some_getLast h, ?_⟩
  have hl : L.length ≠ 0 := fun e => h (List.length_eq_zero_iff.mp e)
  rw [iv_len, show ((-1 : Int) + (L.length : Int)).toNat = L.length - 1 from by (first | lia | omega)]
  unfold iv
  rw [List.getElem?_map, List.getElem?_eq_getElem (by (first | lia | omega)), List.getLast_eq_getElem]
  rfl

theorem c_least (W : W39 Z) (hD : 1 ≤ D) {way : Int} {last : Bool} {L : List Int} (h : ∀ u ∈ L, 0 ≤ u ∧ u.natAbs < 2 ^ 999) : CallC Z D (.fix (.ref 198)) [.obj 0, .int way, .bool last] [.list (iv L)] (.int (least L way last)) [.list (iv L)] := by
  by_cases he : L = []
  · subst he; exact c_least_nil W hD
  · obtain ⟨u, e1, e2⟩ := iv_getLast he
    have hu := h u (List.mem_of_getLast? e1)
    have := c_least_cons W hD (way := way) (last := last) (L := iv L) (by intro e; exact he (by simpa [iv] using e)) e2 hu.2 hu.1
    unfold least
    rw [e1]
    exact this

/-- the row's turns -/
noncomputable def rowP (way cell : Int) : Nat → Int × List Int
  | 0 => (cell.natAbs, [])
  | k + 1 => ((rowP way cell k).1.fdiv 3, (rowP way cell k).2 ++ [least (rowP way cell k).2 way ((k : Int) + 1 == 1 + (cell.natAbs : Int).fmod 3) + ((rowP way cell k).1.fdiv 3).fmod 3])
noncomputable def rowN (cell : Int) : Nat := (1 + (cell.natAbs : Int).fmod 3).toNat
noncomputable def rowL (way cell : Int) : List Int := (rowP way cell (rowN cell)).2
theorem rowN_eq (cell : Int) : ((rowN cell : Nat) : Int) = 1 + (cell.natAbs : Int).fmod 3 ∧ rowN cell ≤ 3 := by
  unfold rowN
  have e : (cell.natAbs : Int).fmod 3 = (cell.natAbs : Int) % 3 := Int.fmod_eq_emod_of_nonneg _ (by (first | lia | omega))
  rw [e]; (first | lia | omega)

theorem c_row (W : W39 Z) (hD : 2 ≤ D) {way cell : Int} (h : ∀ k, k ≤ 3 → ∀ u ∈ (rowP way cell k).2, 0 ≤ u ∧ u.natAbs < 2 ^ 999) (hl : ∀ k, k ≤ 3 → (rowP way cell k).2.length ≤ 3) :
    CallC Z D (.fix (.ref 205)) [.int way, .int cell] [] (.obj 0) [.list (iv (rowL way cell))] := by
  obtain ⟨D, rfl⟩ : ∃ k, D = k + 1 := ⟨D - 1, by (first | lia | omega)⟩
  have F := isFn_of W (a := 205) rfl rfl rfl rfl rfl rfl rfl rfl rfl rfl rfl
  obtain ⟨hN, hN3⟩ := rowN_eq cell
  refine CallC.drop (τ := [.junk]) (σ' := [.list (iv (rowL way cell))]) ?_ (by simp) (fun _ i o e => ?_) (.obj (by simp))
  rotate_left
  · cases i with
    | zero => simp at e; subst e; exact .list fun j x hx => (iv_lt x (List.mem_of_getElem? hx)).mono (by simp)
    | succ i => simp at e
  refine CallC.def (f := .ret (.obj 0)) (names := ["way", "cell"]) (loc := [("way", .int way), ("cell", .int cell)]) W F (fun vs h => by obtain ⟨a, b, rfl⟩ := list2 h; rfl) rfl rfl (by decide +kernel) (by decide +kernel) (by decide +kernel) rfl fun κ C => ?_
  clear F
  dsimp only at C
  apply Exists.intro
  apply XSs.cons
  · walk_at "my s"
  apply XSs.cons
  · walk_at "my s"
  apply XSs.cons
  · walk_at "my s"
  rw [show (1 : Int) + ((cell.natAbs : Int).fmod 3) = (rowN cell : Int) from hN.symm]
  apply XSs.cons
  · apply XS.for
    · walk_at "my e"
    · exact ⟨.range (by (first | lia | omega)) (by (first | lia | omega))⟩
    · refine loop_range (j := 1) (N := rowN cell) (fun k => [("way", .int way), ("cell", .int cell), ("left", .int (rowP way cell k).1), ("count", .int (rowN cell)), ("row", .obj 0)]) (fun k => [.list (iv (rowP way cell k).2), .rangeIt k ((rowN cell : Int) - k)]) (fun k _ => rfl) (fun k hk => ?_) (rowN cell) 0 (by simp)
      have hc := c_least W (D := D) (by (first | lia | omega)) (way := way) (last := (k : Int) + 1 == (rowN cell : Int)) (h k (by (first | lia | omega)))
      have hc2 := hc.list1 (σ₂ := [.list (iv (rowP way cell k).2), .rangeIt ((k : Int) + 1) ((rowN cell : Int) - k - 1)]) rfl iv_lt (.fix _) (RenVs.obj1 (i := 0) (xs := [.int way, .bool ((k : Int) + 1 == (rowN cell : Int))]) (by simp; exact ⟨.int _, .bool _⟩)) (.int _)
      have hle : (iv (rowP way cell k).2).length ≤ sizeLine := by rw [iv_len]; have := hl k (by (first | lia | omega)); exact Nat.le_trans this (by decide)
      clear hc
      refine ⟨_, _, [("k", .int k)], XA.var C rfl (by walk_at "my upd"), ?_⟩
      have e2 : rowP way cell (k + 1) = ((rowP way cell k).1.fdiv 3, (rowP way cell k).2 ++ [least (rowP way cell k).2 way ((k : Int) + 1 == (rowN cell : Int)) + ((rowP way cell k).1.fdiv 3).fmod 3]) := by
        rw [hN]; rfl
      rw [e2, iv_append, show (rowN cell : Int) - ((k + 1 : Nat) : Int) = (rowN cell : Int) - k - 1 from by (first | lia | omega), show ((k + 1 : Nat) : Int) = (k : Int) + 1 from by (first | lia | omega)]
      walk_at "my ss"
    · exact fun _ _ => rfl
    · exact fun _ _ => rfl
  · walk_at "my ss"
end
section
variable {Z : Zt} {D : Nat} {σ σ' σ₂ : List SObj} {κ : Ctx}

/-- what the script's number adds -/
noncomputable def keptI (s : Int) : Int := if s ≥ 0 then (s.natAbs : Int).fmod (10 ^ 30) else -((s.natAbs : Int).fmod (10 ^ 30))
noncomputable def cellsP (script first : List Int) : Nat → List Int
  | 0 => first
  | k + 1 => (cellsP script first k).set (k % first.length) ((cellsP script first k).getD (k % first.length) 0 + keptI (script.getD k 0))
theorem cellsP_len (script first : List Int) : ∀ k, (cellsP script first k).length = first.length
  | 0 => rfl
  | k + 1 => by rw [cellsP, List.length_set, cellsP_len script first k]

theorem iv_at {xs : List Int} {k : Nat} (h : k < xs.length) : (iv xs)[k]? = some (.int (xs.getD k 0)) := by
  unfold iv
  rw [List.getElem?_map, List.getElem?_eq_getElem h, List.getD_eq_getElem?_getD, List.getElem?_eq_getElem h]
  rfl
theorem iv_set {xs : List Int} {k : Nat} {i : Int} : (iv xs).set k (.int i) = iv (xs.set k i) := by
  unfold iv; rw [List.map_set]

theorem c_cells (W : W39 Z) (hD : 1 ≤ D) {script first : List Int} (h0 : first.length = 8) (hs : script.length ≤ 63) :
    CallC Z D (.fix (.ref 170)) [.obj 0, .obj 1] [.list (iv script), .list (iv first)] (.obj 2) [.list (iv script), .list (iv first), .list (iv (cellsP script first script.length))] := by
  obtain ⟨D, rfl⟩ : ∃ k, D = k + 1 := ⟨D - 1, by (first | lia | omega)⟩
  have F := isFn_of W (a := 170) rfl rfl rfl rfl rfl rfl rfl rfl rfl rfl rfl
  refine CallC.drop (τ := [.junk]) (σ' := [.list (iv script), .list (iv first), .list (iv (cellsP script first script.length))]) ?_ (by simp) (fun _ i o e => ?_) (.obj (by simp))
  rotate_left
  · match i, e with
    | 0, e => simp at e; subst e; exact .list fun j x hx => (iv_lt x (List.mem_of_getElem? hx)).mono (by simp)
    | 1, e => simp at e; subst e; exact .list fun j x hx => (iv_lt x (List.mem_of_getElem? hx)).mono (by simp)
    | 2, e => simp at e; subst e; exact .list fun j x hx => (iv_lt x (List.mem_of_getElem? hx)).mono (by simp)
    | n + 3, e => simp at e
  refine CallC.def (f := .ret (.obj 2)) (names := ["script", "first"]) (loc := [("script", .obj 0), ("first", .obj 1)]) W F (fun vs h => by obtain ⟨a, b, rfl⟩ := list2 h; rfl) rfl rfl (by decide +kernel) (by decide +kernel) (by decide +kernel) rfl fun κ C => ?_
  clear F
  dsimp only at C
  have l1 : (iv first).length ≤ sizeLine := by rw [iv_len, h0]; decide
  have l2 : (iv script).length = script.length := iv_len _
  apply Exists.intro
  apply XSs.cons
  · apply XS.assign
    · apply XE.call
      · assumption
      · walk_at "my e"
      · walk_at "my l"
      · walk_at "my keep"
      · exact XK.listOf (by rfl) (by assumption)
      · exact fun _ => rfl
    · walk_at "my a"
    · exact fun _ => rfl
    · exact fun _ => rfl
    · exact fun _ => rfl
  apply XSs.cons
  · apply XS.for
    · walk_at "my e"
    · exact ⟨.range (by (first | lia | omega)) (by rw [iv_len]; (first | lia | omega))⟩
    · rw [iv_len]
      refine loop_range (j := 3) (N := script.length) (fun k => [("script", .obj 0), ("first", .obj 1), ("cells", .obj 2)]) (fun k => [.list (iv script), .list (iv first), .list (iv (cellsP script first k)), .rangeIt k ((script.length : Int) - k)]) (fun k _ => rfl) (fun k hk => ?_) script.length 0 (by simp)
      have hlen : (iv (cellsP script first k)).length = 8 := by rw [iv_len, cellsP_len, h0]
      have n0 : ((iv (cellsP script first k)).length : Int) ≠ 0 := by rw [hlen]; decide
      have n30 : (10 : Int) ^ (30 : Int).toNat ≠ 0 := by decide
      have hm : (k : Int).fmod ((iv (cellsP script first k)).length : Int) = ((k % first.length : Nat) : Int) := by rw [hlen, h0, Int.fmod_eq_emod_of_nonneg _ (by (first | lia | omega))]; (first | lia | omega)
      have hx : (iv script)[((k : Int)).toNat]? = some (.int (script.getD k 0)) := by rw [Int.toNat_natCast]; exact iv_at hk
      have hj : k % first.length < (cellsP script first k).length := by rw [cellsP_len, h0]; (first | lia | omega)
      have hg : XG Z D (.obj 2) (.int ((k : Int).fmod ((iv (cellsP script first k)).length : Int))) [.list (iv script), .list (iv first), .list (iv (cellsP script first k)), .rangeIt ((k : Int) + 1) ((script.length : Int) - k - 1)] (.int ((cellsP script first k).getD (k % first.length) 0)) [.list (iv script), .list (iv first), .list (iv (cellsP script first k)), .rangeIt ((k : Int) + 1) ((script.length : Int) - k - 1)] := by
        rw [hm]; exact .list rfl (by (first | lia | omega)) (by rw [h0]; (first | lia | omega)) (by rw [Int.toNat_natCast]; exact iv_at hj)
      have hsi : ∀ i : Int, XSI Z D (.obj 2) (.int ((k : Int).fmod ((iv (cellsP script first k)).length : Int))) (.int i) [.list (iv script), .list (iv first), .list (iv (cellsP script first k)), .rangeIt ((k : Int) + 1) ((script.length : Int) - k - 1)] [.list (iv script), .list (iv first), .list (iv ((cellsP script first k).set (k % first.length) i)), .rangeIt ((k : Int) + 1) ((script.length : Int) - k - 1)] := fun i => by
        rw [← iv_set]; exact .list rfl hm (by rw [h0]; (first | lia | omega)) (by rw [iv_len]; exact hj)
      by_cases h : script.getD k 0 ≥ 0
      · have hq := hsi ((cellsP script first k).getD (k % first.length) 0 + (((script.getD k 0).natAbs : Nat) : Int).fmod (10 ^ (30 : Int).toNat))
        refine ⟨_, _, [("k", .int k), ("kept", .int ((((script.getD k 0).natAbs : Nat) : Int).fmod (10 ^ (30 : Int).toNat)))], XA.var C rfl (by walk_at "my upd"), ?_⟩
        have e2 : cellsP script first (k + 1) = (cellsP script first k).set (k % first.length) ((cellsP script first k).getD (k % first.length) 0 + (((script.getD k 0).natAbs : Nat) : Int).fmod (10 ^ (30 : Int).toNat)) := by rw [cellsP, keptI, if_pos h]; rfl
        rw [e2, show (script.length : Int) - ((k + 1 : Nat) : Int) = (script.length : Int) - k - 1 from by (first | lia | omega), show ((k + 1 : Nat) : Int) = (k : Int) + 1 from by (first | lia | omega)]
        have hd := decide_eq_true h
        clear hsi e2 hm
        walk_at "my ss"
      · have hq := hsi ((cellsP script first k).getD (k % first.length) 0 + -(((script.getD k 0).natAbs : Nat) : Int).fmod (10 ^ (30 : Int).toNat))
        refine ⟨_, _, [("k", .int k), ("kept", .int ((((script.getD k 0).natAbs : Nat) : Int).fmod (10 ^ (30 : Int).toNat)))], XA.var C rfl (by walk_at "my upd"), ?_⟩
        have e2 : cellsP script first (k + 1) = (cellsP script first k).set (k % first.length) ((cellsP script first k).getD (k % first.length) 0 + -(((script.getD k 0).natAbs : Nat) : Int).fmod (10 ^ (30 : Int).toNat)) := by rw [cellsP, keptI, if_neg h]; rfl
        rw [e2, show (script.length : Int) - ((k + 1 : Nat) : Int) = (script.length : Int) - k - 1 from by (first | lia | omega), show ((k + 1 : Nat) : Int) = (k : Int) + 1 from by (first | lia | omega)]
        have hd := decide_eq_false h
        clear hsi e2 hm
        walk_at "my ss"
    · exact fun _ _ => rfl
    · exact fun _ _ => rfl
  · walk_at "my ss"
end
section
variable {Z : Zt} {D : Nat} {σ σ' σ₂ : List SObj} {κ : Ctx} {loc loc' : Loc}

theorem XE.lim (W : W39 Z) {ns : List (Str × NameKind)} {cs : List (Str × Nat)} (C : Cx κ ns cs) {pos : Pos} (hk : ns.lookup (Str.ofString "_DIV_LIMIT") = some .globalImplicit) : XE Z D κ loc σ (.Name "_DIV_LIMIT" pos) (.int 4000) σ := ⟨.lim W (C.names ▸ hk)⟩
theorem XB.mulList {i : Nat} {x : SV} {k : Int} (e : σ[i]? = some (.list [x])) (h0 : 0 ≤ k) (hhi : k ≤ 2 ^ 24) : XB Z D .Mult (.obj i) (.int k) σ (.obj σ.length) (σ ++ [.list (List.replicate k.toNat x)]) := ⟨.mulList e h0 hhi⟩

theorem XS.fdef (W : W39 Z) {ns : List (Str × NameKind)} {cs cs₀ : List (Str × Nat)} (C : Cx κ ns cs₀) {T : TabT} {name : Str} {params : Arguments} {body : List Stmt} {scope : Scope} {i : Nat} {y₀ : Option SV} (hT : T ∈ tabs39) (hcd : κ.cd = .ref T.c) (hq : κ.name ++ ".<locals>." ++ name = T.qual) (hg : ns.lookup name = some .cell)
    (hd0 : params.defaults = []) (hk0 : params.kw_defaults = []) (ha : ∀ env, annTrees params none env = []) (hcs : ∀ x ∈ cs, ∃ i, x ∈ cs₀ ∧ i = x.2)
    (hcl : ∀ (env : Env) (ρ : List Addr), env.cells = addrsOf ρ cs₀ → closureFor scope env = pure (addrsOf ρ cs))
    (hc : cs₀.lookup name = some i) (hs : σ[i]? = some (.cell y₀)) : XS Z D κ loc σ (.FunctionDef name params body [] none [] scope none name T.pos) .next loc (σ.set i (.cell (some (.clos ⟨name, T.qual, params, body, scope⟩ cs)))) :=
  ⟨.fdef W.ok (W.tabs ▸ hT) hcd hq (by rw [C.names, hg]; simp) hd0 hk0 ha (by rw [C.cells]; exact hcs) (fun env ρ _ h => hcl env ρ (C.cells ▸ h)) (.cell (C.names ▸ hg) (C.cells ▸ hc) hs)⟩

/-- a closure's contract -/
theorem CallC.closX (W : W39 Z) {k : CloT} {cs : List (Str × Nat)} {names : List Str} {rs : List SV} {f : AF} {ns : List (Str × NameKind)} (hbind : ∀ (vs : List Value) (c : List (Str × Addr)) (t pm cd doc : Value) (an : Option Addr), vs.length = rs.length → bindArgs (cloFd k c t pm cd doc an) ⟨vs, []⟩ = pure (names.zip vs)) (hnl : names.length = rs.length)
    (hns : k.scope.names = ns) (hcell : ∀ x ∈ ns, x.2 ≠ .cell) (hloc : ∀ n ∈ names, ns.lookup n = some .local) (hnd : names.Nodup) (hco : k.scope.isCoroutine = false) (hgen : k.scope.isGenerator = false) (hk : k.scope.kind = .function) (hl : names.zip rs = loc)
    (h : ∀ κ, Cx κ ns cs → ∃ loc', XSs Z D κ loc σ k.body f loc' σ') : CallC Z (D + 1) (.clos k cs) rs σ (retOf f) σ' := by
  subst hns hl
  classical
  have h' : ∀ cd, ∃ loc', XSs Z D ⟨k.qual, k.scope, cd, cs⟩ (names.zip rs) σ k.body f loc' σ' := fun cd => h _ ⟨rfl, rfl⟩
  intro A s ρ v us ok r1 r2
  apply RepV.elim r1; intro _ _ _ _ _ _ _ _ _ _ e hc hd hcs ec hcc hdc hv hnc
  exact call_body W.ok ok e hd ⟨_, _, _, _, rfl, ec, hdc, hv⟩ rfl (hbind us _ _ _ _ _ _ r2.1.symm) r2 hnl hcell hloc hnd hco hgen hk rfl rfl rfl hcs fun A s ρ env _ => (h' _).choose_spec.h A s ρ env

theorem c_div2n1n (W : W39 Z) (hD : 1 ≤ D) {a b n : Int} (h : (Builtin.Int.intBits a : Int) - n ≤ 4000) (hb : b ≠ 0) (sb : Sz b) : CallC Z D (.fix (.ref 67)) [.int a, .int b, .int n] [] (.tup [.int (a.fdiv b), .int (a.fmod b)]) [] := by
  obtain ⟨D, rfl⟩ : ∃ k, D = k + 1 := ⟨D - 1, by omega⟩
  have F := isFn_of W (a := 67) rfl rfl rfl rfl rfl rfl rfl rfl rfl rfl rfl
  refine CallC.def (f := .ret (.tup [.int (a.fdiv b), .int (a.fmod b)])) (names := ["a", "b", "n"]) (loc := [("a", .int a), ("b", .int b), ("n", .int n)]) W F (fun vs h => by obtain ⟨a, b, c, rfl⟩ := list3 h; rfl) rfl rfl (by decide +kernel) (by decide +kernel) (by decide +kernel) rfl fun κ C => ?_
  clear F
  dsimp only at C
  have hd := decide_eq_true h
  have hx : ∀ loc σ pos, XE Z D κ loc σ (.Name "_DIV_LIMIT" pos) (.int 4000) σ := fun _ _ _ => .lim W C rfl
  apply Exists.intro
  apply XSs.stop
  · apply XS.ifT
    · apply XT.cmp
      · walk_at "my e"
      · exact hx _ _ _
      · walk_at "my C"
      · rfl
      · walk_at "my tt"
    · walk_at "my ss"
  · intro h; cases h
end
section
variable {Z : Zt} {D : Nat} {σ σ' σ₂ : List SObj} {κ : Ctx} {loc loc' loc₁ : Loc}

/-- some of the objects, in another order -/
theorem RelH.pick {ρ₂ : List Addr} {s : Shared} (es : List Nat) (rel₂ : RelH Z ρ₂ σ₂ s) (hnd : es.Nodup) (hin : Emb es σ₂ σ es) : Along es (es.map fun j => ρ₂.getD j 0) ρ₂ ∧ RelH Z (es.map fun j => ρ₂.getD j 0) σ s := by
  have l2 := rel₂.len
  have hk : ∀ k j, es[k]? = some j → j < σ₂.length ∧ k < σ.length := fun k j e => by
    have hkl : k < σ.length := by rw [hin.length]; exact (List.getElem?_eq_some_iff.mp e).1
    obtain ⟨o₂, e2, _⟩ := hin.get (List.getElem?_eq_getElem hkl) e
    exact ⟨(List.getElem?_eq_some_iff.mp e2).1, hkl⟩
  have E : Along es (es.map fun j => ρ₂.getD j 0) ρ₂ := fun k j e => by
    have hj := (hk k j e).1
    refine ⟨ρ₂.getD j 0, by rw [List.getElem?_map, e]; rfl, ?_⟩
    rw [List.getD_eq_getElem?_getD, List.getElem?_eq_getElem (by (first | lia | omega))]
    rfl
  have sub : ∀ a ∈ es.map fun j => ρ₂.getD j 0, a ∈ ρ₂ := fun a hm => by
    obtain ⟨k, hk'⟩ := List.mem_iff_getElem?.mp hm
    rw [List.getElem?_map] at hk'
    obtain ⟨j, ej, rfl⟩ := Option.map_eq_some_iff.mp hk'
    obtain ⟨a, _, e2⟩ := E k j ej
    have : ρ₂.getD j 0 = a := by rw [List.getD_eq_getElem?_getD, e2]; rfl
    rw [this]; exact List.mem_of_getElem? e2
  generalize hρ : (es.map fun j => ρ₂.getD j 0) = ρ at E sub
  have lρ : ρ.length = σ.length := by rw [← hρ, List.length_map, hin.length]
  exact ⟨E, {
    len := lρ
    nodup := by
      rw [List.nodup_iff_pairwise_ne, List.pairwise_iff_getElem]
      intro i j hi hj hij q
      have hi' : i < es.length := by rw [← hin.length, ← lρ]; exact hi
      have hj' : j < es.length := by rw [← hin.length, ← lρ]; exact hj
      obtain ⟨a, e1, e2⟩ := E i _ (List.getElem?_eq_getElem hi')
      obtain ⟨b, e3, e4⟩ := E j _ (List.getElem?_eq_getElem hj')
      rw [List.getElem?_eq_getElem hi] at e1
      rw [List.getElem?_eq_getElem hj] at e3
      cases e1; cases e3
      rw [← q] at e4
      have := nodup_idx rel₂.nodup e2 e4
      have := (List.getElem_inj (h₀ := hi') (h₁ := hj') hnd).mp this
      (first | lia | omega)
    new := fun a hm => rel₂.new a (sub a hm)
    objs := fun i o a e1 e2 => by
      have hi' : i < es.length := by rw [← hin.length]; exact (List.getElem?_eq_some_iff.mp e1).1
      obtain ⟨b, e3, e4⟩ := E i _ (List.getElem?_eq_getElem hi')
      rw [e2] at e3; cases e3
      obtain ⟨o₂, e5, e6⟩ := hin.get e1 (List.getElem?_eq_getElem hi')
      exact (rel₂.objs _ _ _ e5 e4).bwd E e6
    base := rel₂.base
    tabs := rel₂.tabs
    inTB := rel₂.inTB
    tb := rel₂.tb
    gens := rel₂.gens
    os := rel₂.os }⟩

/-- what is behind the given ones may be dropped, or change places -/
theorem CallC.pick {f r r₂ : SV} {args : List SV} (js : List Nat) (h : CallC Z D f args σ r₂ σ') (hjs : ∀ j ∈ js, σ.length ≤ j) (hnd : js.Nodup) (hin : Emb (List.range σ.length ++ js) σ' σ₂ (List.range σ.length ++ js)) (hr : RenV (List.range σ.length ++ js) r r₂) (hle : σ.length ≤ σ'.length) : CallC Z D f args σ r σ₂ := fun A s ρ v vs ok r1 r2 =>
  codeAny_mono (h A s ρ v vs ok r1 r2) fun rr s' q => by
    cases rr with
    | error e => exact q
    | ok fl =>
    cases fl with
    | ret x =>
      obtain ⟨ρ', ok', st, rx⟩ := q
      obtain ⟨E, rel⟩ := ok'.rel.pick _ (by
        rw [List.nodup_append]
        exact ⟨List.nodup_range, hnd, fun a ha b hb q => by have := hjs b hb; simp at ha; (first | lia | omega)⟩) hin
      obtain ⟨u, e, hu⟩ := st.mono.pre
      have hl := ok.rel.len
      have hl' := ok'.rel.len
      have e1 : (List.range σ.length).map (fun j => ρ'.getD j 0) = ρ := by
        apply List.ext_getElem
        · simp [hl]
        · intro i h1 h2
          simp only [List.getElem_map, List.getElem_range]
          rw [List.getD_eq_getElem?_getD, e, List.getElem?_append_left h2, List.getElem?_eq_getElem h2]
          rfl
      have e2 : ∀ a ∈ js.map (fun j => ρ'.getD j 0), a ∈ u := fun a ha => by
        obtain ⟨j, hj, rfl⟩ := List.mem_map.mp ha
        have h1 := hjs j hj
        obtain ⟨k, hk⟩ := List.mem_iff_getElem?.mp (List.mem_append_right (List.range σ.length) hj)
        obtain ⟨b, _, hb⟩ := E k j hk
        have : ρ'.getD j 0 = b := by rw [List.getD_eq_getElem?_getD, hb]; rfl
        rw [this]
        rw [e, List.getElem?_append_right (by (first | lia | omega))] at hb
        exact List.mem_of_getElem? hb
      rw [List.map_append, e1] at E rel
      have st' : Step A [] ρ s (ρ ++ js.map fun j => ρ'.getD j 0) s' := ⟨⟨⟨_, rfl, fun a ha => hu a (e2 a ha)⟩, st.mono.keep⟩, st.live, st.keepd⟩
      exact ⟨_, ok.after st' rel, st', rx.bwd E hr⟩
    | _ => exact q
/-- only a new list of closed values is kept -/
theorem CallC.pick1 {f : SV} {args L : List SV} {p : Nat} (h : CallC Z D f args [] (.obj p) σ') (hL : σ'[p]? = some (.list L)) (hcl : ∀ x ∈ L, SV.Lt 0 x) : CallC Z D f args [] (.obj 0) [.list L] :=
  h.pick [p] (fun _ _ => Nat.zero_le _) (by simp) (.cons hL (.list (.closed hcl)) .nil) (.obj rfl) (Nat.zero_le _)

section
variable {P : List SObj → Prop}
theorem consE {st : Stmt} {rest : List Stmt} {f : AF} {σ₁ : List SObj} (h1 : XS Z D κ loc σ st .next loc₁ σ₁) (h2 : ∃ loc' σ', XSs Z D κ loc₁ σ₁ rest f loc' σ' ∧ P σ') : ∃ loc' σ', XSs Z D κ loc σ (st :: rest) f loc' σ' ∧ P σ' := by
  obtain ⟨l, t, a, b⟩ := h2
  exact ⟨l, t, .cons h1 a, b⟩
theorem fdefE {st : Stmt} {rest : List Stmt} {f : AF} {i : Nat} {k : CloT} {cs : List (Str × Nat)} (Fact : CloT → Prop) (h1 : XS Z D κ loc σ st .next loc (σ.set i (.cell (some (.clos k cs))))) (inner : Fact k) (h2 : ∀ k, Fact k → ∃ loc' σ', XSs Z D κ loc (σ.set i (.cell (some (.clos k cs)))) rest f loc' σ' ∧ P σ') :
    ∃ loc' σ', XSs Z D κ loc σ (st :: rest) f loc' σ' ∧ P σ' := consE h1 (h2 k inner)
theorem endE {sts : List Stmt} {f : AF} (h : XSs Z D κ loc σ sts f loc' σ') (p : P σ') : ∃ loc' σ', XSs Z D κ loc σ sts f loc' σ' ∧ P σ' := ⟨_, _, h, p⟩

/-- a def with cells of its own, of what it leaves only so much is known -/
theorem CallC.defE (W : W39 Z) {a : Addr} {fd : FuncData} {body : List Stmt} {names : List Str} {rs : List SV} {f : AF} {ns : List (Str × NameKind)} {cn : List (Str × Nat)} {cs : List SObj} (F : IsFn Z a fd body) (hbind : ∀ vs : List Value, vs.length = rs.length → bindArgs fd ⟨vs, []⟩ = pure (names.zip vs)) (hnl : names.length = rs.length)
    (hns : fd.scope.names = ns) (hcf : ∀ n, cellsFrom n ns [] = cn.map fun x => (x.1, n + x.2)) (hcn : (cn.map (·.1)).Nodup) (hkind : ∀ n ∈ names, ns.lookup n = some .local ∨ (ns.lookup n = some .cell ∧ n ∈ cn.map (·.1))) (hl : locB ns (names.zip rs) [] = loc)
    (hcs : (cn.map fun x => SObj.cell (cellB ns (names.zip rs) (fun _ => none) x.1)) = cs)
    (h : ∀ κ, Cx κ ns (idxs σ.length cn) → κ.name = fd.qualname → κ.cd = fd.code → ∃ loc' σ', XSs Z D κ loc (σ ++ cs) body f loc' σ' ∧ P σ') : ∃ σ', CallC Z (D + 1) (.fix (.ref a)) rs σ (retOf f) σ' ∧ P σ' := by
  subst hns hl hcs
  obtain ⟨loc', σ', h, p⟩ := h ⟨fd.qualname, fd.scope, fd.code, idxs σ.length cn⟩ ⟨rfl, rfl⟩ rfl rfl
  exact ⟨σ', .fnC W.ok F hbind hnl hcf hcn hkind h.h, p⟩
end

/-- the low digits, base 2 ^ n -/
noncomputable def digs (n : Nat) (x : Nat) : Nat → List Int
  | 0 => []
  | k + 1 => ((x % 2 ^ n : Nat) : Int) :: digs n (x / 2 ^ n) k
theorem digs_len (n : Nat) : ∀ (k x : Nat), (digs n x k).length = k
  | 0, _ => rfl
  | k + 1, x => by rw [digs, List.length_cons, digs_len n k]
theorem digs_mod (n : Nat) : ∀ (k x m : Nat), k ≤ m → digs n (x % 2 ^ (m * n)) k = digs n x k
  | 0, _, _, _ => rfl
  | k + 1, x, m, h => by
    obtain ⟨m, rfl⟩ : ∃ j, m = j + 1 := ⟨m - 1, by (first | lia | omega)⟩
    have e : 2 ^ ((m + 1) * n) = 2 ^ n * 2 ^ (m * n) := by rw [← Nat.pow_add]; congr 1; rw [Nat.succ_mul]; (first | lia | omega)
    rw [digs, digs, e, Nat.mod_mul_right_mod, Nat.mod_mul_right_div_self, digs_mod n k _ m (by (first | lia | omega))]
theorem digs_split (n : Nat) : ∀ (a b x : Nat), digs n x (a + b) = digs n x a ++ digs n (x / 2 ^ (a * n)) b
  | 0, b, x => by simp [digs]
  | a + 1, b, x => by
    have e : 2 ^ ((a + 1) * n) = 2 ^ n * 2 ^ (a * n) := by rw [← Nat.pow_add]; congr 1; rw [Nat.succ_mul]; (first | lia | omega)
    rw [show a + 1 + b = (a + b) + 1 from by (first | lia | omega), digs, digs, digs_split n a b, e, Nat.div_div_eq_div_mul]
    rfl
theorem digs_cut (n a b x : Nat) : digs n x (a + b) = digs n (x % 2 ^ (a * n)) a ++ digs n (x / 2 ^ (a * n)) b := by
  rw [digs_split, digs_mod n a x a (Nat.le_refl _)]

theorem and_high (x s : Nat) : x &&& (x / 2 ^ s * 2 ^ s) = x / 2 ^ s * 2 ^ s := by
  apply Nat.eq_of_testBit_eq
  intro i
  rw [Nat.testBit_and, Nat.mul_comm, Nat.testBit_two_pow_mul, Nat.testBit_div_two_pow]
  by_cases h : s ≤ i
  · simp [h, show i - s + s = i from by (first | lia | omega)]
  · simp [h]
theorem or_high (x s : Nat) : x ||| (x / 2 ^ s * 2 ^ s) = x := by
  apply Nat.eq_of_testBit_eq
  intro i
  rw [Nat.testBit_or, Nat.mul_comm, Nat.testBit_two_pow_mul, Nat.testBit_div_two_pow]
  by_cases h : s ≤ i
  · simp [h, show i - s + s = i from by (first | lia | omega)]
  · simp [h]
theorem bitXor_low (x s : Nat) : Builtin.bitXor (x : Int) ((x / 2 ^ s * 2 ^ s : Nat) : Int) = ((x % 2 ^ s : Nat) : Int) := by
  have e3 := and_high x s
  have e4 := or_high x s
  have e5 : x % 2 ^ s + x / 2 ^ s * 2 ^ s = x := by have := Nat.mod_add_div x (2 ^ s); rw [Nat.mul_comm]; exact this
  generalize x / 2 ^ s * 2 ^ s = b at *
  generalize x % 2 ^ s = c at *
  have hna : ¬ (0 : Int) ≤ -(x : Int) - 1 := by (first | lia | omega)
  have hnb : ¬ (0 : Int) ≤ -(b : Int) - 1 := by (first | lia | omega)
  have e1 : Builtin.bitAnd (x : Int) (b : Int) = ((x &&& b : Nat) : Int) := by
    unfold Builtin.bitAnd; simp
  have e2 : Builtin.bitOr (x : Int) (b : Int) = ((x ||| b : Nat) : Int) := by
    unfold Builtin.bitOr Builtin.bitAnd Builtin.bitNot
    simp only [hna, hnb, decide_false]
    have ea : (-(-(x : Int) - 1) - 1).toNat = x := by (first | lia | omega)
    have eb : (-(-(b : Int) - 1) - 1).toNat = b := by (first | lia | omega)
    rw [ea, eb]; (first | lia | omega)
  unfold Builtin.bitXor
  rw [e1, e2, e3, e4]
  (first | lia | omega)
end
section
variable {Z : Zt} {D : Nat} {σ σ' σ₂ : List SObj} {κ : Ctx} {loc loc' loc₁ : Loc}

theorem XE.toI {e : Expr} {a b : Int} (h : XE Z D κ loc σ e (.int a) σ') (q : a = b) : XE Z D κ loc σ e (.int b) σ' := q ▸ h
theorem szN {x : Nat} (h : x < 2 ^ 1000) : Sz (x : Int) := by unfold Sz; rw [Int.natAbs_natCast]; exact h
theorem szS {x : Nat} (h : x < 2 ^ 64) : Sz (x : Int) := szN (Nat.lt_of_lt_of_le h (Nat.pow_le_pow_right (by (first | lia | omega)) (by (first | lia | omega))))

noncomputable def csI : List (Str × Nat) := [("n", 2), ("inner", 0), ("a_digits", 1)]
noncomputable def stI (k : CloT) (n : Nat) (xs : List Int) : List SObj := [.cell (some (.clos k csI)), .cell (some (.obj 4)), .cell (some (.int n)), .list [.int 0], .list (iv xs)]
/-- what inner does -/
noncomputable def I2D (Z : Zt) (D₀ n : Nat) (k : CloT) : Prop := ∀ (d D L R x : Nat) (xs : List Int), d + 1 ≤ D → L < R → R ≤ L + 2 ^ d → R ≤ xs.length → xs.length ≤ 2000 → x < 2 ^ ((R - L) * n) → x < 2 ^ 1000 →
  CallC Z D (.clos k csI) [.int x, .int L, .int R] (stI k n xs) .none (stI k n (xs.take L ++ digs n x (R - L) ++ xs.drop R))

theorem set_take {xs : List Int} {L : Nat} {x : Int} (h : L < xs.length) : xs.set L x = xs.take L ++ [x] ++ xs.drop (L + 1) := by
  rw [List.set_eq_take_append_cons_drop, if_pos h]; simp

theorem splice {xs : List Int} {L M R n x : Nat} (h1 : L ≤ M) (h2 : M ≤ R) (h3 : R ≤ xs.length) {ys : List Int} (e : ys = xs.take L ++ digs n (x % 2 ^ ((M - L) * n)) (M - L) ++ xs.drop M) :
    ys.take M ++ digs n (x / 2 ^ ((M - L) * n)) (R - M) ++ ys.drop R = xs.take L ++ digs n x (R - L) ++ xs.drop R := by
  have l1 : (xs.take L ++ digs n (x % 2 ^ ((M - L) * n)) (M - L)).length = M := by rw [List.length_append, List.length_take, digs_len]; (first | lia | omega)
  have e1 : ys.take M = xs.take L ++ digs n (x % 2 ^ ((M - L) * n)) (M - L) := by rw [e, List.take_append_of_le_length (by (first | lia | omega)), List.take_of_length_le (by (first | lia | omega))]
  have e2 : ys.drop R = xs.drop R := by rw [e, List.drop_append, List.drop_eq_nil_of_le (by (first | lia | omega)), l1, List.drop_drop, List.nil_append]; congr 1; (first | lia | omega)
  rw [e1, e2, show R - L = (M - L) + (R - M) from by (first | lia | omega), digs_cut]
  simp only [List.append_assoc]
theorem digs_one {n x : Nat} (h : x < 2 ^ n) : digs n x 1 = [(x : Int)] := by simp [digs, Nat.mod_eq_of_lt h]
theorem digs_zero (n : Nat) : ∀ k, digs n 0 k = List.replicate k 0
  | 0 => rfl
  | k + 1 => by rw [digs, Nat.zero_mod, Nat.zero_div, digs_zero n k]; rfl
theorem half_eq {L R M : Nat} (hM : M = (L + R) / 2) : ((L : Int) + (R : Int)).fdiv (2 ^ (1 : Int).toNat) = (M : Int) := by
  rw [Int.fdiv_eq_ediv_of_nonneg _ (by decide), hM, show (2 : Int) ^ (1 : Int).toNat = 2 from rfl]; (first | lia | omega)
theorem shr_eq {x S : Nat} : (x : Int).fdiv (2 ^ ((S : Int)).toNat) = ((x / 2 ^ S : Nat) : Int) := by
  rw [Int.toNat_natCast, Int.fdiv_eq_ediv_of_nonneg _ (Int.pow_nonneg (by decide)), Int.natCast_ediv, Int.natCast_pow]; rfl
theorem low_eq {x S : Nat} : Builtin.bitXor (x : Int) (((x / 2 ^ S : Nat) : Int) * 2 ^ ((S : Int)).toNat) = ((x % 2 ^ S : Nat) : Int) := by
  rw [Int.toNat_natCast, ← bitXor_low x S, Int.natCast_mul, Int.natCast_pow]; rfl

noncomputable def LeafI (Z : Zt) (n : Nat) (k : CloT) : Prop := ∀ (D L x : Nat) (xs : List Int), L < xs.length → xs.length ≤ 2000 → CallC Z (D + 1) (.clos k csI) [.int x, .int L, .int (L + 1 : Nat)] (stI k n xs) .none (stI k n (xs.set L x))
noncomputable def StepI (Z : Zt) (n : Nat) (k : CloT) : Prop := ∀ (D L M R S x : Nat) (xs ys zs : List Int), L + 1 ≠ R → ((L : Int) + (R : Int)).fdiv (2 ^ (1 : Int).toNat) = (M : Int) → ((M : Int) - (L : Int)) * (n : Int) = (S : Int) → Sz ((M : Int) - (L : Int)) → Sz (n : Int) → Sz ((x / 2 ^ S : Nat) : Int) → S ≤ 1000000 →
  CallC Z D (.clos k csI) [.int (x % 2 ^ S : Nat), .int L, .int M] (stI k n xs) .none (stI k n ys) → CallC Z D (.clos k csI) [.int (x / 2 ^ S : Nat), .int M, .int R] (stI k n ys) .none (stI k n zs) →
  CallC Z (D + 1) (.clos k csI) [.int x, .int L, .int R] (stI k n xs) .none (stI k n zs)
theorem i2d_of {n : Nat} {k : CloT} (hn2 : n ≤ 1000) (leaf : LeafI Z n k) (step : StepI Z n k) : I2D Z D n k := by
  intro d
  induction d with
  | zero =>
    intro D L R x xs hD h1 h2 h3 hX h4 h5
    obtain rfl : R = L + 1 := by have : 2 ^ 0 = 1 := rfl; (first | lia | omega)
    obtain ⟨D, rfl⟩ : ∃ k, D = k + 1 := ⟨D - 1, by (first | lia | omega)⟩
    rw [show L + 1 - L = 1 from by (first | lia | omega), Nat.one_mul] at h4
    rw [show L + 1 - L = 1 from by (first | lia | omega), digs_one h4, ← set_take (by (first | lia | omega))]
    exact leaf D L x xs (by (first | lia | omega)) hX
  | succ d ih =>
    intro D L R x xs hD h1 h2 h3 hX h4 h5
    obtain ⟨D, rfl⟩ : ∃ k, D = k + 1 := ⟨D - 1, by (first | lia | omega)⟩
    by_cases hR : R = L + 1
    · subst hR
      rw [show L + 1 - L = 1 from by (first | lia | omega), Nat.one_mul] at h4
      rw [show L + 1 - L = 1 from by (first | lia | omega), digs_one h4, ← set_take (by (first | lia | omega))]
      exact leaf D L x xs (by (first | lia | omega)) hX
    obtain ⟨M, hM⟩ : ∃ M, M = (L + R) / 2 := ⟨_, rfl⟩
    obtain ⟨S, hS⟩ : ∃ S, S = (M - L) * n := ⟨_, rfl⟩
    have hp : 2 ^ (d + 1) = 2 ^ d + 2 ^ d := by rw [Nat.pow_succ]; (first | lia | omega)
    have hS2 : S ≤ 1000000 := by rw [hS]; exact Nat.le_trans (Nat.mul_le_mul (show M - L ≤ 1000 by (first | lia | omega)) hn2) (by decide)
    obtain ⟨ys, hys⟩ : ∃ ys, ys = xs.take L ++ digs n (x % 2 ^ S) (M - L) ++ xs.drop M := ⟨_, rfl⟩
    have hyl : ys.length = xs.length := by rw [hys, List.length_append, List.length_append, List.length_take, List.length_drop, digs_len]; (first | lia | omega)
    have hx1 : x % 2 ^ S < 2 ^ ((M - L) * n) := by rw [← hS]; exact Nat.mod_lt _ (Nat.two_pow_pos S)
    have hx2 : x / 2 ^ S < 2 ^ ((R - M) * n) := by
      rw [Nat.div_lt_iff_lt_mul (Nat.two_pow_pos S), ← Nat.pow_add, hS, ← Nat.add_mul, show R - M + (M - L) = R - L from by (first | lia | omega)]; exact h4
    have c1 := ih D L M (x % 2 ^ S) xs (by (first | lia | omega)) (by (first | lia | omega)) (by (first | lia | omega)) (by (first | lia | omega)) hX hx1 (Nat.lt_of_le_of_lt (Nat.mod_le _ _) h5)
    have c2 := ih D M R (x / 2 ^ S) ys (by (first | lia | omega)) (by (first | lia | omega)) (by (first | lia | omega)) (by (first | lia | omega)) (by (first | lia | omega)) hx2 (Nat.lt_of_le_of_lt (Nat.div_le_self _ _) h5)
    rw [← hys] at c1
    have hsp := splice (x := x) (n := n) (ys := ys) (show L ≤ M by (first | lia | omega)) (show M ≤ R by (first | lia | omega)) h3 (by rw [← hS]; exact hys)
    rw [← hS] at hsp
    rw [hsp] at c2
    exact step D L M R S x xs ys _ (by (first | lia | omega)) (half_eq hM) (by rw [hS, Int.natCast_mul, Int.ofNat_sub (by (first | lia | omega))]) (by rw [← Int.ofNat_sub (by (first | lia | omega))]; exact szS (by (first | lia | omega))) (szS (by (first | lia | omega))) (szN (Nat.lt_of_le_of_lt (Nat.div_le_self _ _) h5)) hS2 c1 c2

theorem c_int2digits (W : W39 Z) {a n : Nat} {d len : Nat} (hD : d + 2 ≤ D) (hn : 0 < n) (hn2 : n ≤ 1000) (ha : a < 2 ^ 1000) (hl : ((Builtin.Int.intBits a : Int) + n - 1).fdiv n = (len : Int)) (hl2 : len ≤ 2 ^ d) (hl3 : len ≤ 1000) (ha2 : a < 2 ^ (len * n)) (h0 : a ≠ 0 → 0 < len) :
    CallC Z D (.fix (.ref 81)) [.int a, .int n] [] (.obj 0) [.list (iv (digs n a len))] := by
  obtain ⟨D, rfl⟩ : ∃ k, D = k + 1 := ⟨D - 1, by (first | lia | omega)⟩
  have F := isFn_of W (a := 81) rfl rfl rfl rfl rfl rfl rfl rfl rfl rfl rfl
  have key : ∃ σ', CallC Z (D + 1) (.fix (.ref 81)) [.int a, .int n] [] (retOf (.ret (.obj 4))) σ' ∧ σ'[4]? = some (.list (iv (digs n a len))) := by
    refine CallC.defE (names := ["a", "n"]) (cn := [("inner", 2), ("a_digits", 1), ("n", 0)]) (loc := [("a", .int a)]) (cs := [.cell none, .cell none, .cell (some (.int n))]) W F (fun vs h => by obtain ⟨a, b, rfl⟩ := list2 h; rfl) rfl rfl (fun m => by rfl) (by decide +kernel) (by decide +kernel) (by rfl) (by rfl) fun κ C cn cc => ?_
    clear F
    dsimp only at C cn cc
    have zn : (n : Int) ≠ 0 := by (first | lia | omega)
    have s1 := szS (x := n) (by (first | lia | omega))
    have hlen : 0 ≤ (len : Int) := by (first | lia | omega)
    refine consE (loc₁ := [("a", .int a)]) (σ₁ := [.cell none, .cell (some (.obj 4)), .cell (some (.int n)), .list [.int 0], .list (List.replicate (len : Int).toNat (.int 0))]) ?_ ?_
    · apply XS.assign
      · apply XE.bin
        · walk_at "my e"
        · apply XE.toI
          · walk_at "my e"
          · exact hl
        · apply XB.mulList
          · rfl
          · (first | lia | omega)
          · (first | lia | omega)
      · exact XA.cell (i := 1) (y₀ := none) C rfl rfl rfl
      · exact fun _ => rfl
      · exact fun _ => rfl
      · exact fun _ => rfl
    have e1 : List.replicate (len : Int).toNat (SV.int 0) = iv (List.replicate len 0) := by simp [iv]
    rw [e1]
    apply fdefE (cs := csI) (i := 0) (Fact := I2D Z D n)
    · exact XS.fdef (T := ⟨80, 76, ⟨90, 4, 99, 28⟩, "_int2digits.<locals>.inner"⟩) W C (by simp [tabs39]) cc (by rw [cn]; decide +kernel) rfl rfl rfl (fun _ => rfl) (by intro x hx; refine ⟨_, ?_, rfl⟩; revert x; decide +kernel) (fun env ρ h => by obtain ⟨⟩ := env; cases h; rfl) rfl rfl
    · clear C cn cc κ
      refine i2d_of hn2 ?_ ?_
      · intro D L x xs hL hX
        refine CallC.closX (f := .ret .none) (names := ["x", "L", "R"]) (loc := [("x", .int x), ("L", .int L), ("R", .int (L + 1 : Nat))]) W (fun vs c t pm cd doc an h => by obtain ⟨a, b, c, rfl⟩ := list3 h; rfl) rfl rfl (by decide +kernel) (by decide +kernel) (by decide +kernel) rfl rfl rfl rfl fun κ C => ?_
        dsimp only at C ⊢
        have ht : ((L : Int) + 1 == ((L + 1 : Nat) : Int)) = true := by simp
        have hj : L < (iv xs).length := by rw [iv_len]; exact hL
        unfold stI
        rw [← iv_set]
        apply Exists.intro
        walk_at "my ss"
      · intro D L M R S x xs ys zs hR hmid hsh z1 z2 z3 hS2 c1 c2
        have hup := shr_eq (x := x) (S := S)
        have hlo := low_eq (x := x) (S := S)
        have ht : ((L : Int) + 1 == (R : Int)) = false := by simp; (first | lia | omega)
        refine CallC.closX (f := .next) (names := ["x", "L", "R"]) (loc := [("x", .int x), ("L", .int L), ("R", .int R)]) W (fun vs c t pm cd doc an h => by obtain ⟨a, b, c, rfl⟩ := list3 h; rfl) rfl rfl (by decide +kernel) (by decide +kernel) (by decide +kernel) rfl rfl rfl rfl fun κ C => ?_
        dsimp only at C ⊢
        unfold stI at c1 c2 ⊢
        apply Exists.intro
        apply XSs.cons
        · walk_at "my s"
        apply XSs.cons
        · apply XS.assign
          · apply XE.toI
            · walk_at "my e"
            · exact hmid
          · walk_at "my a"
          · exact fun _ => rfl
          · exact fun _ => rfl
          · exact fun _ => rfl
        apply XSs.cons
        · (apply XS.assign; (apply XE.toI; (walk_at "my e"); (exact hsh)); (walk_at "my a"); (exact fun _ => rfl); (exact fun _ => rfl); (exact fun _ => rfl))
        apply XSs.cons
        · (apply XS.assign; (apply XE.toI; (walk_at "my e"); (exact hup)); (walk_at "my a"); (exact fun _ => rfl); (exact fun _ => rfl); (exact fun _ => rfl))
        apply XSs.cons
        · (apply XS.assign; (apply XE.toI; (walk_at "my e"); (exact hlo)); (walk_at "my a"); (exact fun _ => rfl); (exact fun _ => rfl); (exact fun _ => rfl))
        walk_at "my ss"
    · intro k hk
      by_cases z : a = 0
      · subst z
        have e2 : iv (List.replicate len 0) = iv (digs n 0 len) := by rw [digs_zero]
        rw [e2]
        have ht : ((((0 : Nat) : Int) != 0)) = false := rfl
        apply endE
        · walk_at "my ss"
        · rfl
      · have ht : (((a : Int)) != 0) = true := by simpa using z
        have hc := hk d D 0 len a (List.replicate len 0) (by (first | lia | omega)) (h0 z) (by (first | lia | omega)) (by simp) (by simp; (first | lia | omega)) (by simpa using ha2) ha
        have hlr : (iv (List.replicate len 0)).length = len := by simp [iv]
        have e3 : (List.replicate len (0 : Int)).take 0 ++ digs n a (len - 0) ++ (List.replicate len 0).drop len = digs n a len := by simp
        rw [e3] at hc
        have hc2 : CallC Z D (.clos k csI) [.int a, .int 0, .int ((iv (List.replicate len 0)).length : Int)] [.cell (some (.clos k csI)), .cell (some (.obj 4)), .cell (some (.int n)), .list [.int 0], .list (iv (List.replicate len 0))] .none [.cell (some (.clos k csI)), .cell (some (.obj 4)), .cell (some (.int n)), .list [.int 0], .list (iv (digs n a len))] := by rw [hlr]; exact hc
        clear hc
        apply endE
        · walk_at "my ss"
        · rfl
  obtain ⟨σ', key, p⟩ := key
  exact key.pick1 p iv_lt
end
section
variable {Z : Zt} {D : Nat} {σ σ' σ₂ : List SObj} {κ : Ctx} {loc loc' loc₁ : Loc}

theorem bits_lt (x : Nat) : x < 2 ^ Builtin.Int.intBits (x : Int) := by
  unfold Builtin.Int.intBits
  by_cases z : x = 0
  · subst z; decide
  · have : ((x : Int) == 0) = false := by simpa using z
    rw [this, Int.natAbs_natCast]
    exact (Nat.log2_lt z).mp (Nat.lt_succ_self _)
theorem bits_le {x m : Nat} (h : x < 2 ^ m) : Builtin.Int.intBits (x : Int) ≤ m := by
  unfold Builtin.Int.intBits
  by_cases z : x = 0
  · subst z; exact Nat.zero_le _
  · have : ((x : Int) == 0) = false := by simpa using z
    rw [this, Int.natAbs_natCast]
    exact (Nat.log2_lt z).mpr h
theorem bits_pos {x : Nat} (h : x ≠ 0) : 0 < Builtin.Int.intBits (x : Int) := by
  unfold Builtin.Int.intBits
  have : ((x : Int) == 0) = false := by simpa using h
  rw [this]; simp

/-- the number of these digits, base 2 ^ n -/
noncomputable def valD (n : Nat) : List Int → Int
  | [] => 0
  | d :: ds => d + valD n ds * 2 ^ n
theorem valD_append (n : Nat) : ∀ (xs ys : List Int), valD n (xs ++ ys) = valD n xs + valD n ys * 2 ^ (xs.length * n)
  | [], ys => by simp [valD]
  | x :: xs, ys => by
    have e : (2 : Int) ^ ((xs.length + 1) * n) = 2 ^ (xs.length * n) * 2 ^ n := by rw [← Int.pow_add]; congr 1; rw [Nat.succ_mul]
    rw [List.cons_append, valD, valD, valD_append n xs ys, List.length_cons, e, Int.add_mul, Int.mul_assoc, Int.add_assoc]
noncomputable def csD : List (Str × Nat) := [("n", 2), ("inner", 1), ("digits", 3)]
noncomputable def stD (k : CloT) (n : Nat) (xs : List Int) : List SObj := [.list (iv xs), .cell (some (.clos k csD)), .cell (some (.int n)), .cell (some (.obj 0))]
noncomputable def seg (xs : List Int) (L R : Nat) : List Int := (xs.drop L).take (R - L)
noncomputable def D2I (Z : Zt) (D₀ n : Nat) (xs : List Int) (k : CloT) : Prop := ∀ (d D L R : Nat), d + 1 ≤ D → L < R → R ≤ L + 2 ^ d → R ≤ xs.length →
  CallC Z D (.clos k csD) [.int L, .int R] (stD k n xs) (.int (valD n (seg xs L R))) (stD k n xs)
noncomputable def LeafD (Z : Zt) (n : Nat) (xs : List Int) (k : CloT) : Prop := ∀ (D L : Nat) (u : Int), xs[L]? = some u → L < 2000 → CallC Z (D + 1) (.clos k csD) [.int L, .int (L + 1 : Nat)] (stD k n xs) (.int u) (stD k n xs)
noncomputable def StepD (Z : Zt) (n : Nat) (xs : List Int) (k : CloT) : Prop := ∀ (D L M R S : Nat) (a b : Int), L + 1 ≠ R → ((L : Int) + (R : Int)).fdiv (2 ^ (1 : Int).toNat) = (M : Int) → ((M : Int) - (L : Int)) * (n : Int) = (S : Int) → Sz ((M : Int) - (L : Int)) → Sz (n : Int) → Sz a → S ≤ 1000000 →
  CallC Z D (.clos k csD) [.int M, .int R] (stD k n xs) (.int a) (stD k n xs) → CallC Z D (.clos k csD) [.int L, .int M] (stD k n xs) (.int b) (stD k n xs) →
  CallC Z (D + 1) (.clos k csD) [.int L, .int R] (stD k n xs) (.int (a * 2 ^ ((S : Int)).toNat + b)) (stD k n xs)
theorem seg_one {xs : List Int} {L : Nat} {u : Int} (h : xs[L]? = some u) : seg xs L (L + 1) = [u] := by
  unfold seg
  obtain ⟨h1, h2⟩ := List.getElem?_eq_some_iff.mp h
  rw [show L + 1 - L = 1 from by (first | lia | omega), List.drop_eq_getElem_cons h1, List.take_succ_cons, List.take_zero, h2]
theorem seg_cut {xs : List Int} {L M R : Nat} (h1 : L ≤ M) (h2 : M ≤ R) : seg xs L R = seg xs L M ++ seg xs M R := by
  unfold seg
  rw [show R - L = (M - L) + (R - M) from by (first | lia | omega), List.take_add, List.drop_drop, show L + (M - L) = M from by (first | lia | omega)]
theorem d2i_of {n : Nat} {xs : List Int} {k : CloT} (hn2 : n ≤ 1000) (hX : xs.length ≤ 1000) (hz : ∀ L R, Sz (valD n (seg xs L R))) (leaf : LeafD Z n xs k) (step : StepD Z n xs k) : D2I Z D n xs k := by
  have leaf' : ∀ (D L : Nat), L + 1 ≤ xs.length → CallC Z (D + 1) (.clos k csD) [.int L, .int (L + 1 : Nat)] (stD k n xs) (.int (valD n (seg xs L (L + 1)))) (stD k n xs) := fun D L h => by
    have e := List.getElem?_eq_getElem (l := xs) (i := L) (by (first | lia | omega))
    rw [seg_one e]
    have := leaf D L _ e (by (first | lia | omega))
    simpa [valD] using this
  intro d
  induction d with
  | zero =>
    intro D L R hD h1 h2 h3
    obtain rfl : R = L + 1 := by have : 2 ^ 0 = 1 := rfl; (first | lia | omega)
    obtain ⟨D, rfl⟩ : ∃ k, D = k + 1 := ⟨D - 1, by (first | lia | omega)⟩
    exact leaf' D L h3
  | succ d ih =>
    intro D L R hD h1 h2 h3
    obtain ⟨D, rfl⟩ : ∃ k, D = k + 1 := ⟨D - 1, by (first | lia | omega)⟩
    by_cases hR : R = L + 1
    · subst hR
      exact leaf' D L h3
    obtain ⟨M, hM⟩ : ∃ M, M = (L + R) / 2 := ⟨_, rfl⟩
    obtain ⟨S, hS⟩ : ∃ S, S = (M - L) * n := ⟨_, rfl⟩
    have hp : 2 ^ (d + 1) = 2 ^ d + 2 ^ d := by rw [Nat.pow_succ]; (first | lia | omega)
    have hS2 : S ≤ 1000000 := by rw [hS]; exact Nat.le_trans (Nat.mul_le_mul (show M - L ≤ 1000 by (first | lia | omega)) hn2) (by decide)
    have c1 := ih D M R (by (first | lia | omega)) (by (first | lia | omega)) (by (first | lia | omega)) (by (first | lia | omega))
    have c2 := ih D L M (by (first | lia | omega)) (by (first | lia | omega)) (by (first | lia | omega)) (by (first | lia | omega))
    have hl : (seg xs L M).length = M - L := by unfold seg; rw [List.length_take, List.length_drop]; (first | lia | omega)
    rw [seg_cut (show L ≤ M by (first | lia | omega)) (show M ≤ R by (first | lia | omega)), valD_append, hl, ← hS, Int.add_comm]
    have := step D L M R S _ _ (by (first | lia | omega)) (half_eq hM) (by rw [hS, Int.natCast_mul, Int.ofNat_sub (by (first | lia | omega))]) (by rw [← Int.ofNat_sub (by (first | lia | omega))]; exact szS (by (first | lia | omega))) (szS (by (first | lia | omega))) (hz M R) hS2 c1 c2
    rw [Int.toNat_natCast] at this
    exact this

theorem c_digits2int (W : W39 Z) {n d : Nat} {xs : List Int} (hD : d + 2 ≤ D) (hn2 : n ≤ 1000) (hl : xs.length ≤ 2 ^ d) (hX : xs.length ≤ 1000) (hz : ∀ L R, Sz (valD n (seg xs L R))) :
    CallC Z D (.fix (.ref 88)) [.obj 0, .int n] [.list (iv xs)] (.int (valD n xs)) [.list (iv xs)] := by
  obtain ⟨D, rfl⟩ : ∃ k, D = k + 1 := ⟨D - 1, by (first | lia | omega)⟩
  have F := isFn_of W (a := 88) rfl rfl rfl rfl rfl rfl rfl rfl rfl rfl rfl
  have key : ∃ σ', CallC Z (D + 1) (.fix (.ref 88)) [.obj 0, .int n] [.list (iv xs)] (retOf (.ret (.int (valD n xs)))) σ' ∧ ∃ τ, σ' = [.list (iv xs)] ++ τ := by
    refine CallC.defE (names := ["digits", "n"]) (cn := [("inner", 2), ("n", 1), ("digits", 0)]) (loc := []) (cs := [.cell none, .cell (some (.int n)), .cell (some (.obj 0))]) W F (fun vs h => by obtain ⟨a, b, rfl⟩ := list2 h; rfl) rfl rfl (fun m => by rfl) (by decide +kernel) (by decide +kernel) (by rfl) (by rfl) fun κ C cn cc => ?_
    clear F
    dsimp only at C cn cc
    have s1 := szS (x := n) (by (first | lia | omega))
    apply fdefE (cs := csD) (i := 1) (Fact := D2I Z D n xs)
    · exact XS.fdef (T := ⟨87, 83, ⟨105, 4, 110, 55⟩, "_digits2int.<locals>.inner"⟩) W C (by simp [tabs39]) cc (by rw [cn]; decide +kernel) rfl rfl rfl (fun _ => rfl) (by intro x hx; refine ⟨_, ?_, rfl⟩; show x ∈ ([("inner", 1), ("n", 2), ("digits", 3)] : List (Str × Nat)); revert x; decide +kernel) (fun env ρ h => by obtain ⟨⟩ := env; cases h; rfl) rfl rfl
    · clear C cn cc κ
      refine d2i_of hn2 hX hz ?_ ?_
      · intro D L u hu hL
        refine CallC.closX (f := .ret (.int u)) (names := ["L", "R"]) (loc := [("L", .int L), ("R", .int (L + 1 : Nat))]) W (fun vs c t pm cd doc an h => by obtain ⟨a, b, rfl⟩ := list2 h; rfl) rfl rfl (by decide +kernel) (by decide +kernel) (by decide +kernel) rfl rfl rfl rfl fun κ C => ?_
        dsimp only at C ⊢
        have ht : ((L : Int) + 1 == ((L + 1 : Nat) : Int)) = true := by simp
        have hj : (iv xs)[((L : Int)).toNat]? = some (.int u) := by rw [Int.toNat_natCast]; unfold iv; rw [List.getElem?_map, hu]; rfl
        unfold stD
        apply Exists.intro
        walk_at "my ss"
      · intro D L M R S a b hR hmid hsh z1 z2 z3 hS2 c1 c2
        have ht : ((L : Int) + 1 == (R : Int)) = false := by simp; (first | lia | omega)
        refine CallC.closX (f := .ret (.int (a * 2 ^ ((S : Int)).toNat + b))) (names := ["L", "R"]) (loc := [("L", .int L), ("R", .int R)]) W (fun vs c t pm cd doc an h => by obtain ⟨a, b, rfl⟩ := list2 h; rfl) rfl rfl (by decide +kernel) (by decide +kernel) (by decide +kernel) rfl rfl rfl rfl fun κ C => ?_
        dsimp only at C ⊢
        unfold stD at c1 c2 ⊢
        apply Exists.intro
        apply XSs.cons
        · walk_at "my s"
        apply XSs.cons
        · (apply XS.assign; (apply XE.toI; (walk_at "my e"); (exact hmid)); (walk_at "my a"); (exact fun _ => rfl); (exact fun _ => rfl); (exact fun _ => rfl))
        apply XSs.cons
        · (apply XS.assign; (apply XE.toI; (walk_at "my e"); (exact hsh)); (walk_at "my a"); (exact fun _ => rfl); (exact fun _ => rfl); (exact fun _ => rfl))
        walk_at "my ss"
    · intro k hk
      by_cases z : xs = []
      · subst z
        apply endE
        · walk_at "my ss"
        · exact ⟨_, rfl⟩
      · have zl : 0 < xs.length := Nat.pos_of_ne_zero fun e => z (List.length_eq_zero_iff.mp e)
        have zl2 : (!(iv xs).isEmpty) = true := by cases xs with | nil => exact absurd rfl z | cons a b => rfl
        have hc := hk d D 0 xs.length (by (first | lia | omega)) zl (by (first | lia | omega)) (Nat.le_refl _)
        have e3 : seg xs 0 xs.length = xs := by simp [seg]
        rw [e3, ← iv_len xs] at hc
        unfold stD at hc
        have hle : (iv xs).length = xs.length := iv_len xs
        apply endE
        · walk_at "my ss"
        · exact ⟨_, rfl⟩
  obtain ⟨σ', key, τ, rfl⟩ := key
  exact key.drop0 (.int _)
end
section
variable {Z : Zt} {D : Nat} {σ σ' σ₂ : List SObj} {κ : Ctx} {loc loc' loc₁ : Loc}

theorem digs_get (n : Nat) : ∀ (k x i : Nat), i < k → (digs n x k)[i]? = some ((x / 2 ^ (i * n) % 2 ^ n : Nat) : Int)
  | 0, x, i, h => by (first | lia | omega)
  | k + 1, x, 0, h => by simp [digs]
  | k + 1, x, i + 1, h => by
    have e : 2 ^ ((i + 1) * n) = 2 ^ n * 2 ^ (i * n) := by rw [← Nat.pow_add]; congr 1; rw [Nat.succ_mul]; (first | lia | omega)
    rw [digs, List.getElem?_cons_succ, digs_get n k _ i (by (first | lia | omega)), e, Nat.div_div_eq_div_mul]
theorem valD_bound {n : Nat} : ∀ {xs : List Int}, (∀ x ∈ xs, 0 ≤ x ∧ x < 2 ^ n) → 0 ≤ valD n xs ∧ valD n xs < 2 ^ (xs.length * n)
  | [], _ => by simp [valD]
  | x :: xs, h => by
    obtain ⟨a, b⟩ := h x (List.mem_cons_self ..)
    obtain ⟨c, d⟩ := valD_bound (fun y hy => h y (List.mem_cons_of_mem _ hy))
    have e : (2 : Int) ^ ((xs.length + 1) * n) = 2 ^ (xs.length * n) * 2 ^ n := by rw [← Int.pow_add]; congr 1; rw [Nat.succ_mul]
    have p : (0 : Int) < 2 ^ n := Int.pow_pos (by decide)
    rw [valD, List.length_cons, e]
    generalize (2 : Int) ^ n = P at *
    generalize (2 : Int) ^ (xs.length * n) = Q at *
    constructor
    · have := Int.mul_nonneg c (Int.le_of_lt p); (first | lia | omega)
    · have h1 : (valD n xs + 1) * P ≤ Q * P := Int.mul_le_mul_of_nonneg_right d (Int.le_of_lt p)
      rw [Int.add_mul, Int.one_mul] at h1
      (first | lia | omega)

/-- the top k digits, the rest, the next digit of the quotient -/
noncomputable def topH (a n len k : Nat) : Nat := a / 2 ^ ((len - k) * n)
noncomputable def digK (a n len k : Nat) : Nat := a / 2 ^ ((len - 1 - k) * n) % 2 ^ n
noncomputable def qK (a b n len k : Nat) : Nat := (topH a n len k % b * 2 ^ n + digK a n len k) / b
noncomputable def qsK (a b n len k : Nat) : List Int := (List.range k).map fun i => (qK a b n len i : Int)
theorem topH_succ {a n len k : Nat} (h : k < len) : topH a n len (k + 1) = topH a n len k * 2 ^ n + digK a n len k := by
  unfold topH digK
  rw [show len - (k + 1) = len - 1 - k from by (first | lia | omega), show (len - k) * n = (len - 1 - k) * n + n from by rw [← Nat.succ_mul]; congr 1; (first | lia | omega), Nat.pow_add, ← Nat.div_div_eq_div_mul]
  generalize a / 2 ^ ((len - 1 - k) * n) = y
  have := Nat.div_add_mod y (2 ^ n)
  rw [Nat.mul_comm]; exact this.symm
theorem restK {a b n len k : Nat} (hb : 0 < b) (h : k < len) : (topH a n len k % b * 2 ^ n + digK a n len k) % b = topH a n len (k + 1) % b ∧ topH a n len (k + 1) / b = topH a n len k / b * 2 ^ n + qK a b n len k := by
  unfold qK
  rw [topH_succ h]
  generalize topH a n len k = t
  generalize digK a n len k = g
  have e : t * 2 ^ n + g = (t % b * 2 ^ n + g) + b * (t / b * 2 ^ n) := by
    have := Nat.mod_add_div t b
    calc t * 2 ^ n + g = (t % b + b * (t / b)) * 2 ^ n + g := by rw [this]
      _ = _ := by rw [Nat.add_mul, Nat.mul_assoc]; (first | lia | omega)
  rw [e, Nat.add_mul_mod_self_left, Nat.add_mul_div_left _ _ hb]
  exact ⟨rfl, by (first | lia | omega)⟩
theorem qK_lt {a b n len k : Nat} (hb : 0 < b) : qK a b n len k < 2 ^ n := by
  unfold qK
  rw [Nat.div_lt_iff_lt_mul hb]
  have h1 : topH a n len k % b + 1 ≤ b := Nat.mod_lt _ hb
  have h2 : digK a n len k < 2 ^ n := Nat.mod_lt _ (Nat.two_pow_pos n)
  have h3 := Nat.mul_le_mul_right (2 ^ n) h1
  rw [Nat.add_mul, Nat.one_mul] at h3
  rw [Nat.mul_comm (2 ^ n) b]
  (first | lia | omega)
theorem valD_qs {a b n len : Nat} (hb : 0 < b) (ha : a < 2 ^ (len * n)) : ∀ k, k ≤ len → valD n (qsK a b n len k).reverse = ((topH a n len k / b : Nat) : Int)
  | 0, _ => by
    have : topH a n len 0 = 0 := by unfold topH; rw [Nat.sub_zero]; exact Nat.div_eq_of_lt ha
    rw [this]; simp [qsK, valD]
  | k + 1, h => by
    have e : qsK a b n len (k + 1) = qsK a b n len k ++ [(qK a b n len k : Int)] := by unfold qsK; rw [List.range_succ, List.map_append]; rfl
    rw [e, List.reverse_append]
    show (qK a b n len k : Int) + valD n (qsK a b n len k).reverse * 2 ^ n = _
    rw [valD_qs hb ha k (by (first | lia | omega)), (restK hb (by (first | lia | omega))).2]
    rw [Int.natCast_add, Int.natCast_mul, Int.natCast_pow]
    have : ((2 : Nat) : Int) = 2 := rfl
    rw [this]; (first | lia | omega)

theorem c_divmod_pos (W : W39 Z) (hD : 13 ≤ D) {a b : Nat} (hb : 0 < b) (ha2 : a < 2 ^ 400) (hb2 : b < 2 ^ 400) : CallC Z D (.fix (.ref 95)) [.int a, .int b] [] (.tup [.int (a / b : Nat), .int (a % b : Nat)]) [] := by
  obtain ⟨D, rfl⟩ : ∃ k, D = k + 1 := ⟨D - 1, by (first | lia | omega)⟩
  have F := isFn_of W (a := 95) rfl rfl rfl rfl rfl rfl rfl rfl rfl rfl rfl
  obtain ⟨n, hn⟩ : ∃ n, n = Builtin.Int.intBits (b : Int) := ⟨_, rfl⟩
  obtain ⟨m, hm⟩ : ∃ m, m = Builtin.Int.intBits (a : Int) := ⟨_, rfl⟩
  obtain ⟨len, hlen⟩ : ∃ len, len = (m + n - 1) / n := ⟨_, rfl⟩
  have n1 : 0 < n := by rw [hn]; exact bits_pos (by (first | lia | omega))
  have n2 : n ≤ 400 := by rw [hn]; exact bits_le hb2
  have m2 : m ≤ 400 := by rw [hm]; exact bits_le ha2
  have bn : b < 2 ^ n := by rw [hn]; exact bits_lt b
  have am : a < 2 ^ m := by rw [hm]; exact bits_lt a
  have len1 : m ≤ len * n := by
    have h1 := Nat.lt_mul_div_succ (m + n - 1) n1
    rw [← hlen, Nat.mul_add, Nat.mul_comm, Nat.mul_one] at h1
    (first | lia | omega)
  have len2 : len * n ≤ m + n - 1 := by rw [hlen]; exact Nat.div_mul_le_self _ _
  have len3 : len ≤ 800 := by have := Nat.mul_le_mul_left len n1; (first | lia | omega)
  have lena : a < 2 ^ (len * n) := Nat.lt_of_lt_of_le am (Nat.pow_le_pow_right (by (first | lia | omega)) len1)
  have p1 : (2 : Nat) ^ 400 < 2 ^ 1000 := Nat.pow_lt_pow_right (by (first | lia | omega)) (by (first | lia | omega))
  have ca := c_int2digits W (D := D) (a := a) (n := n) (d := 10) (len := len) (by (first | lia | omega)) n1 (by (first | lia | omega)) (Nat.lt_trans ha2 p1) (by
    rw [← hm, show ((m : Int) + (n : Int) - 1) = ((m + n - 1 : Nat) : Int) from by (first | lia | omega), hlen, Int.fdiv_eq_ediv_of_nonneg _ (by (first | lia | omega)), Int.natCast_ediv]) (by (first | lia | omega)) (by (first | lia | omega)) lena (fun h => by
      rcases Nat.eq_zero_or_pos len with z | z
      · rw [z] at lena; simp at lena; (first | lia | omega)
      · exact z)
  have hqs : ∀ x ∈ (qsK a b n len len).reverse, 0 ≤ x ∧ x < 2 ^ n := fun x hx => by
    rw [List.mem_reverse] at hx
    unfold qsK at hx
    obtain ⟨i, _, rfl⟩ := List.mem_map.mp hx
    have := qK_lt (a := a) (n := n) (len := len) (k := i) hb
    refine ⟨by (first | lia | omega), ?_⟩
    have h2 : ((qK a b n len i : Nat) : Int) < ((2 ^ n : Nat) : Int) := by (first | lia | omega)
    rw [Int.natCast_pow] at h2
    exact h2
  have ql : ∀ k, (qsK a b n len k).length = k := fun k => by simp [qsK]
  have cq := c_digits2int W (D := D) (n := n) (d := 10) (xs := (qsK a b n len len).reverse) (by (first | lia | omega)) (by (first | lia | omega)) (by rw [List.length_reverse, ql]; (first | lia | omega)) (by rw [List.length_reverse, ql]; (first | lia | omega)) (fun L R => by
    obtain ⟨h1, h2⟩ := valD_bound (n := n) (xs := seg (qsK a b n len len).reverse L R) fun x hx => hqs x (List.mem_of_mem_drop (List.mem_of_mem_take hx))
    have h3 : (seg (qsK a b n len len).reverse L R).length ≤ len := by unfold seg; rw [List.length_take, List.length_drop, List.length_reverse, ql]; (first | lia | omega)
    have h6 : (seg (qsK a b n len len).reverse L R).length * n ≤ 800 := Nat.le_trans (Nat.mul_le_mul_right n h3) (by (first | lia | omega))
    have h5 : 2 ^ ((seg (qsK a b n len len).reverse L R).length * n) < 2 ^ 1000 := Nat.pow_lt_pow_right (by (first | lia | omega)) (by (first | lia | omega))
    unfold Sz
    generalize hv : valD n (seg (qsK a b n len len).reverse L R) = v at h1 h2 ⊢
    generalize (seg (qsK a b n len len).reverse L R).length * n = e at h2 h5
    have h7 : ((v.natAbs : Nat) : Int) < ((2 ^ e : Nat) : Int) := by rw [Int.natCast_pow, Int.natAbs_of_nonneg h1]; exact h2
    exact Nat.lt_trans (Int.ofNat_lt.mp h7) h5)
  rw [valD_qs hb lena len (Nat.le_refl _), show topH a n len len = a from by unfold topH; simp] at cq
  have cq2 := cq.list1 (i := 1) (args₂ := [.obj 1, .int n]) (σ₂ := [.list (iv (digs n a len)), .list (iv (qsK a b n len len).reverse), .junk]) rfl iv_lt (.fix _) (RenVs.obj1 (by simp; exact .int _)) (.int _)
  clear cq
  have hra : topH a n len len = a := by unfold topH; simp
  have hr0 : topH a n len 0 % b = 0 := by
    have : topH a n len 0 = 0 := by unfold topH; rw [Nat.sub_zero]; exact Nat.div_eq_of_lt lena
    rw [this, Nat.zero_mod]
  have hni : ((Builtin.Int.intBits (b : Int) : Nat) : Int) = (n : Int) := by rw [hn]
  have hsl : (iv (qsK a b n len len)).length ≤ sizeLine := by rw [iv_len, ql]; exact Nat.le_trans len3 (by decide)
  have cstep : ∀ k, k < len → ∀ σ, CallC Z D (.fix (.ref 67)) [.int (((topH a n len k % b : Nat) : Int) * 2 ^ ((n : Int)).toNat + (digK a n len k : Nat)), .int b, .int n] σ (.tup [.int (qK a b n len k : Nat), .int (topH a n len (k + 1) % b : Nat)]) σ := fun k hk σ => by
    have e1 : ((topH a n len k % b : Nat) : Int) * 2 ^ ((n : Int)).toNat + (digK a n len k : Nat) = ((topH a n len k % b * 2 ^ n + digK a n len k : Nat) : Int) := by
      rw [Int.toNat_natCast, Int.natCast_add, Int.natCast_mul, Int.natCast_pow]; rfl
    have h2 : digK a n len k < 2 ^ n := Nat.mod_lt _ (Nat.two_pow_pos n)
    have h1 : topH a n len k % b + 1 ≤ 2 ^ n := Nat.lt_of_lt_of_le (Nat.mod_lt _ hb) (Nat.le_of_lt bn)
    have h3 : topH a n len k % b * 2 ^ n + digK a n len k < 2 ^ (n + n) := by
      have h4 := Nat.mul_le_mul_right (2 ^ n) h1
      rw [Nat.add_mul, Nat.one_mul] at h4
      rw [Nat.pow_add]; (first | lia | omega)
    have hc := c_div2n1n W (D := D) (a := ((topH a n len k % b * 2 ^ n + digK a n len k : Nat) : Int)) (b := (b : Int)) (n := (n : Int)) (by (first | lia | omega)) (by have := bits_le h3; (first | lia | omega)) (by (first | lia | omega)) (szN (Nat.lt_trans hb2 p1))
    rw [Int.fdiv_eq_ediv_of_nonneg _ (by (first | lia | omega)), Int.fmod_eq_emod_of_nonneg _ (by (first | lia | omega)), ← Int.natCast_ediv, ← Int.natCast_emod, (restK hb hk).1] at hc
    rw [e1]
    exact hc.any (.fix _) (by simp; exact ⟨.int _, .int _, .int _⟩) (.tup (fun i x hx => by
      have := List.mem_of_getElem? hx; simp at this; rcases this with rfl | rfl <;> exact .int _))
  refine CallC.drop0' [.list (iv (digs n a len)), .list (iv (qsK a b n len len).reverse), .junk] ?_ [.list (iv (digs n a len)), .list (iv (qsK a b n len len).reverse), .junk] rfl (.tup (fun i x hx => by
      have := List.mem_of_getElem? hx; simp at this; rcases this with rfl | rfl <;> exact .int _))
  refine CallC.def (f := .ret (.tup [.int (a / b : Nat), .int (a % b : Nat)])) (names := ["a", "b"]) (loc := [("a", .int a), ("b", .int b)]) W F (fun vs h => by obtain ⟨a, b, rfl⟩ := list2 h; rfl) rfl rfl (by decide +kernel) (by decide +kernel) (by decide +kernel) rfl fun κ C => ?_
  clear F
  dsimp only at C
  have zK : ∀ k, Sz ((topH a n len k % b : Nat) : Int) := fun k => szN (Nat.lt_trans (Nat.lt_trans (Nat.mod_lt _ hb) hb2) p1)
  clear hqs am len1 len2 lena p1 bn ha2 hb2 m2 hm hn hlen
  have n1000 : (n : Int) ≤ 1000000 := by (first | lia | omega)
  apply Exists.intro
  apply XSs.cons
  · (apply XS.assign; (apply XE.toI; (walk_at "my e"); (exact hni)); (walk_at "my a"); (exact fun _ => rfl); (exact fun _ => rfl); (exact fun _ => rfl))
  apply XSs.cons
  · walk_at "my s"
  apply XSs.cons
  · walk_at "my s"
  apply XSs.cons
  · walk_at "my s"
  apply XSs.cons
  · apply XS.for
    · walk_at "my e"
    · exact ⟨.rev rfl⟩
    · rw [show (0 : Int) = ((topH a n len 0 % b : Nat) : Int) from by rw [hr0]; rfl]
      rw [show ((iv (digs n a len)).length : Int) - 1 = ((iv (digs n a len)).length : Int) - 1 - ((0 : Nat) : Int) from by (first | lia | omega)]
      refine loop_rev (i := 0) (j := 2) (xs := iv (digs n a len)) (fun k => [("a", .int a), ("b", .int b), ("n", .int n), ("a_digits", .obj 0), ("r", .int (topH a n len k % b : Nat)), ("q_digits", .obj 1)]) (fun k => [.list (iv (digs n a len)), .list (iv (qsK a b n len k)), .revIt 0 (((iv (digs n a len)).length : Int) - 1 - k)]) (fun k _ => ⟨rfl, rfl⟩) (fun k x hk hx => ?_) len 0 (by rw [iv_len, digs_len]; (first | lia | omega))
      rw [iv_len, digs_len] at hk
      have hx2 : x = .int (digK a n len k : Nat) := by
        unfold iv at hx
        rw [List.getElem?_map, List.length_map, digs_len, digs_get n len a _ (by (first | lia | omega))] at hx
        exact (Option.some.inj hx).symm
      subst hx2
      clear hx
      have hc := cstep k hk
      have z1 := zK k
      have hq : iv (qsK a b n len (k + 1)) = iv (qsK a b n len k) ++ [.int (qK a b n len k : Nat)] := by unfold qsK; rw [List.range_succ, List.map_append, iv_append]; rfl
      have hqk : (iv (qsK a b n len k)).length ≤ sizeLine := by rw [iv_len, ql]; exact Nat.le_trans (by (first | lia | omega) : k ≤ 800) (by decide)
      refine ⟨_, _, [("a_digit", .int (digK a n len k : Nat)), ("q_digit", .int (qK a b n len k : Nat))], XA.var C rfl (by walk_at "my upd"), ?_⟩
      rw [hq]
      clear hq zK cstep
      apply XSs.cons
      · apply XS.assign
        · apply XE.call
          · assumption
          · walk_at "my e"
          · walk_at "my l"
          · walk_at "my keep"
          · apply XK.of
            apply hc
          · exact fun _ => rfl
        · walk_at "my a"
        · exact fun _ => rfl
        · exact fun _ => rfl
        · exact fun _ => rfl
      walk_at "my ss"
    · exact fun _ _ => rfl
    · exact fun _ _ => rfl
  rw [iv_len, digs_len, hra]
  have er : iv (qsK a b n len len).reverse = (iv (qsK a b n len len)).reverse := by simp [iv]
  rw [er] at cq2 ⊢
  walk_at "my ss"
end
section
variable {Z : Zt} {D : Nat} {σ σ' σ₂ : List SObj} {κ : Ctx} {loc loc' loc₁ : Loc}

theorem dm_pp (W : W39 Z) (hD : 14 ≤ D) {a b : Nat} (hb : 0 < b) (ha2 : a < 2 ^ 400) (hb2 : b < 2 ^ 400) : CallC Z D (.fix (.ref 102)) [.int a, .int b] [] (.tup [.int (a / b : Nat), .int (a % b : Nat)]) [] := by
  obtain ⟨D, rfl⟩ : ∃ k, D = k + 1 := ⟨D - 1, by (first | lia | omega)⟩
  have F := isFn_of W (a := 102) rfl rfl rfl rfl rfl rfl rfl rfl rfl rfl rfl
  have hc := c_divmod_pos W (D := D) (by (first | lia | omega)) hb ha2 hb2
  refine CallC.def (f := .ret (.tup [.int (a / b : Nat), .int (a % b : Nat)])) (names := ["a", "b"]) (loc := [("a", .int a), ("b", .int b)]) W F (fun vs h => by obtain ⟨a, b, rfl⟩ := list2 h; rfl) rfl rfl (by decide +kernel) (by decide +kernel) (by decide +kernel) rfl fun κ C => ?_
  clear F
  dsimp only at C
  have t0 : ((b : Int) == 0) = false := by simp; (first | lia | omega)
  have t1 : decide ((b : Int) < 0) = false := decide_eq_false (by (first | lia | omega))
  have t2 : decide ((a : Int) < 0) = false := decide_eq_false (by (first | lia | omega))
  apply Exists.intro
  walk_at "my ss"

theorem dm_np (W : W39 Z) (hD : 15 ≤ D) {n b : Nat} (hb : 0 < b) (ha2 : n < 2 ^ 400) (hb2 : b < 2 ^ 400) : CallC Z D (.fix (.ref 102)) [.int (-(n : Int) - 1), .int b] [] (.tup [.int (-((n / b : Nat) : Int) - 1), .int (b + (-((n % b : Nat) : Int) - 1))]) [] := by
  obtain ⟨D, rfl⟩ : ∃ k, D = k + 1 := ⟨D - 1, by (first | lia | omega)⟩
  have F := isFn_of W (a := 102) rfl rfl rfl rfl rfl rfl rfl rfl rfl rfl rfl
  have hc := dm_pp W (D := D) (by (first | lia | omega)) hb ha2 hb2
  have e : (n : Int) = Builtin.bitNot (-(n : Int) - 1) := by unfold Builtin.bitNot; (first | lia | omega)
  rw [e] at hc
  refine CallC.def (f := .ret (.tup [.int (-((n / b : Nat) : Int) - 1), .int (b + (-((n % b : Nat) : Int) - 1))])) (names := ["a", "b"]) (loc := [("a", .int (-(n : Int) - 1)), ("b", .int b)]) W F (fun vs h => by obtain ⟨a, b, rfl⟩ := list2 h; rfl) rfl rfl (by decide +kernel) (by decide +kernel) (by decide +kernel) rfl fun κ C => ?_
  clear F e
  dsimp only at C
  have t0 : ((b : Int) == 0) = false := by simp; (first | lia | omega)
  have t1 : decide ((b : Int) < 0) = false := decide_eq_false (by (first | lia | omega))
  have t2 : decide (-(n : Int) - 1 < 0) = true := decide_eq_true (by (first | lia | omega))
  apply Exists.intro
  walk_at "my ss"

theorem dm_p (W : W39 Z) (hD : 15 ≤ D) {a b : Int} (hb : 0 < b) (ha2 : a.natAbs < 2 ^ 399) (hb2 : b.natAbs < 2 ^ 399) : CallC Z D (.fix (.ref 102)) [.int a, .int b] [] (.tup [.int (a.fdiv b), .int (a.fmod b)]) [] := by
  have p : (2 : Nat) ^ 399 < 2 ^ 400 := Nat.pow_lt_pow_right (by (first | lia | omega)) (by (first | lia | omega))
  generalize (2 : Nat) ^ 399 = P at *
  obtain ⟨m, rfl⟩ : ∃ m : Nat, b = m := ⟨b.toNat, by (first | lia | omega)⟩
  rw [Int.natAbs_natCast] at hb2
  have hm : 0 < m := by (first | lia | omega)
  rw [Int.fdiv_eq_ediv_of_nonneg _ (by (first | lia | omega)), Int.fmod_eq_emod_of_nonneg _ (by (first | lia | omega))]
  by_cases h : 0 ≤ a
  · obtain ⟨n, rfl⟩ : ∃ n : Nat, a = n := ⟨a.toNat, by (first | lia | omega)⟩
    have := dm_pp W (D := D) (a := n) (b := m) (by (first | lia | omega)) hm (by (first | lia | omega)) (by (first | lia | omega))
    rw [Int.natCast_ediv, Int.natCast_emod] at this
    exact this
  · obtain ⟨n, rfl⟩ : ∃ n : Nat, a = -(n : Int) - 1 := ⟨(-a - 1).toNat, by (first | lia | omega)⟩
    have := dm_np W (D := D) (n := n) (b := m) (by (first | lia | omega)) hm (by (first | lia | omega)) (by (first | lia | omega))
    have u : (-(n : Int) - 1) / (m : Int) = -((n / m : Nat) : Int) - 1 ∧ (-(n : Int) - 1) % (m : Int) = m + (-((n % m : Nat) : Int) - 1) := by
      have h1 := Nat.div_add_mod n m
      have h2 := Nat.mod_lt n hm
      refine Int.ediv_emod_unique (by (first | lia | omega)) |>.mpr ⟨?_, by (first | lia | omega), by (first | lia | omega)⟩
      have h3 : (m : Int) * ((n / m : Nat) : Int) + ((n % m : Nat) : Int) = n := by rw [← Int.natCast_mul, ← Int.natCast_add, h1]
      rw [Int.mul_sub, Int.mul_neg]
      (first | lia | omega)
    rw [u.1, u.2]
    exact this

theorem c_int_divmod (W : W39 Z) (hD : 16 ≤ D) {a b : Int} (hb : b ≠ 0) (ha2 : a.natAbs < 2 ^ 399) (hb2 : b.natAbs < 2 ^ 399) : CallC Z D (.fix (.ref 102)) [.int a, .int b] σ (.tup [.int (a.fdiv b), .int (a.fmod b)]) σ := by
  refine CallC.any ?_ (.fix _) (by simp; exact ⟨.int _, .int _⟩) (.tup (fun i x hx => by
      have := List.mem_of_getElem? hx; simp at this; rcases this with rfl | rfl <;> exact .int _))
  by_cases h : 0 < b
  · exact dm_p W (by (first | lia | omega)) h ha2 hb2
  · obtain ⟨D, rfl⟩ : ∃ k, D = k + 1 := ⟨D - 1, by (first | lia | omega)⟩
    have F := isFn_of W (a := 102) rfl rfl rfl rfl rfl rfl rfl rfl rfl rfl rfl
    have hc := dm_p W (D := D) (a := -a) (b := -b) (by (first | lia | omega)) (by (first | lia | omega)) (by (first | lia | omega)) (by (first | lia | omega))
    have e1 : (-a).fdiv (-b) = a.fdiv b := Int.neg_fdiv_neg ..
    have e2 : (-a).fmod (-b) = -(a.fmod b) := by rw [Int.fmod_def, Int.fmod_def, e1, Int.neg_mul]; (first | lia | omega)
    rw [e1] at hc
    have e3 : a.fmod b = -((-a).fmod (-b)) := by (first | lia | omega)
    rw [e3]
    refine CallC.def (f := .ret (.tup [.int (a.fdiv b), .int (-((-a).fmod (-b)))])) (names := ["a", "b"]) (loc := [("a", .int a), ("b", .int b)]) W F (fun vs h => by obtain ⟨a, b, rfl⟩ := list2 h; rfl) rfl rfl (by decide +kernel) (by decide +kernel) (by decide +kernel) rfl fun κ C => ?_
    clear F e1 e2 e3
    dsimp only at C
    have t0 : (b == 0) = false := by simp; (first | lia | omega)
    have t1 : decide (b < 0) = true := decide_eq_true (by (first | lia | omega))
    apply Exists.intro
    walk_at "my ss"
end
section
variable {Z : Zt} {D : Nat} {σ σ' σ₂ : List SObj} {κ : Ctx} {loc loc' loc₁ : Loc}

/-- the frames lie beside what is tracked -/
theorem frames_fun {A : Around} {ρ : List Addr} {s : Shared} : ∀ {l : List Env} {h : Heap} {base : Heap}, (∀ e ∈ l, FrameOk Z ρ h e) → (∀ e ∈ l, ∀ L, e.frame = some L → base.get? L = none) → h.FunFrames base l
  | [], _, _, _, _ => trivial
  | e :: l, h, base, hf, hb => by
    obtain ⟨L, h1, h2, h3, h4, h5, o, es, n, h6, h7⟩ := hf e (.head _)
    exact ⟨h2, ⟨L, o, h1, hb e (.head _) L h1, h6, fun vs q => by rw [h7] at q; cases q⟩, frames_fun (A := A) (s := s) (fun e he => hf e (.tail _ he)) fun e he => hb e (.tail _ he)⟩

/-- all but the frames stays, the frames' tables too -/
theorem step_flying {A : Around} {ρ : List Addr} {s s' : Shared} {outer : List Env} (ok : Okh Z D A ρ σ s) (hA : A.frames = some outer) (h1 : (hideAll s.heap (outer.filterMap (·.frame))).StaysIn s'.heap) (h2 : s.heap.UpToSlots s'.heap) (hg : s'.gens = s.gens) (ho : s'.os = s.os) :
    Step A [] ρ s ρ s' ∧ RelH Z ρ σ s' := by
  have hphi : phi A = outer.filterMap (·.frame) := phi_of hA
  have stay : ∀ b o, s.heap.get? b = some o → b ∉ phi A → s'.heap.get? b = some o := fun b o e hn => h1 b o (hideAll_get _ e (by rw [← hphi]; exact hn))
  have fr : ∀ b ∈ phi A, b ∉ ρ ∧ b ∉ TB ∧ Z.H0.get? b = none ∧ ∃ o es n, s.heap.get? b = some o ∧ o.data = .dict es n := fun b hb => by
    rw [hphi] at hb
    obtain ⟨e, he, q⟩ := List.mem_filterMap.mp hb
    obtain ⟨outer', q1, q2⟩ := ok.frames
    rw [hA] at q1; cases q1
    obtain ⟨L, p1, p2, p3, p4, p5, o, es, n, p6, p7⟩ := q2 e he
    rw [p1] at q; cases q
    exact ⟨p3, p4, p5, o, es, n, p6, p7⟩
  have mono : Mono ρ s.heap ρ s'.heap := ⟨⟨[], by simp, by simp⟩, fun b o e _ hi => stay b o e fun hb => by
    obtain ⟨_, _, _, o', es, n, e', d⟩ := fr b hb
    rw [e] at e'; cases e'
    exact hi.1 es n d⟩
  have st : Step A [] ρ s ρ s' := ⟨mono, fun a o e => by
    by_cases hb : a ∈ phi A
    · obtain ⟨_, _, _, o', es, n, e', d⟩ := fr a hb
      obtain ⟨sl, e2⟩ := h2 a o' e' fun vs q => by rw [d] at q; cases q
      exact ⟨_, e2⟩
    · exact ⟨o, stay a o e hb⟩, fun a o es n e d _ _ => by
    by_cases hb : a ∈ phi A
    · obtain ⟨sl, e2⟩ := h2 a o e fun vs q => by rw [d] at q; cases q
      exact ⟨_, e2, d, fun q => absurd hb q⟩
    · exact ⟨o, stay a o e hb, d, fun _ => rfl⟩⟩
  refine ⟨st, ?_⟩
  exact {
    len := ok.rel.len
    nodup := ok.rel.nodup
    new := ok.rel.new
    objs := fun i o a e1 e2 => by
      have := ok.rel.objs i o a e1 e2
      obtain ⟨ob, eo⟩ := this.live
      refine this.mono mono ((stay a ob eo fun hb => ?_).trans eo.symm)
      exact (fr a hb).1 (List.mem_of_getElem? e2)
    base := fun a o e => stay a o (ok.rel.base a o e) fun hb => by rw [(fr a hb).2.2.1] at e; cases e
    tabs := fun T hT => by
      obtain ⟨ps, e⟩ := ok.rel.tb T.P (ok.rel.inTB T hT)
      exact (ok.rel.tabs T hT).keep mono ((stay _ _ e fun hb => (fr _ hb).2.1 (ok.rel.inTB T hT)).trans e.symm)
    inTB := ok.rel.inTB
    tb := fun P hP => by
      obtain ⟨ps, e⟩ := ok.rel.tb P hP
      exact ⟨ps, stay _ _ e fun hb => (fr _ hb).2.1 hP⟩
    gens := by rw [hg]; exact ok.rel.gens
    os := by rw [ho]; exact ok.rel.os }

/-- how a division by nought leaves -/
noncomputable def FlewOut (A : Around) (s : Shared) (e : Value) (s' : Shared) : Prop :=
  ∃ outer x a0, A.frames = some outer ∧ e = .ref x ∧ Heap.FlyingW (hideAll s.heap (outer.filterMap (·.frame))) outer x (.type "ZeroDivisionError") a0 s'.heap ∧ s.heap.UpToSlots s'.heap ∧ s'.gens = s.gens ∧ s'.os = s.os

theorem divmod_flies (W : W39 Z) {A : Around} {s : Shared} {ρ : List Addr} {a : Int} {v u : Value} (ok : Okh Z (D + 1) A ρ σ s) (r1 : RepV ρ s.heap (.int a) v) (r2 : RepV ρ s.heap (.int 0) u) :
    codeAny (model Z.prog Z.w) A (.call (.ref 102) ⟨[v, u], []⟩) (fun r s' => ∃ e, r = .error e ∧ FlewOut A s e s') s := by
  have F := isFn_of W (a := 102) rfl rfl rfl rfl rfl rfl rfl rfl rfl rfl rfl
  obtain ⟨o, e1, e2⟩ := F.obj
  refine codeAny_call_def (binds := [("a", v), ("b", u)]) (by have := ok.depth; (first | lia | omega)) (ok.rel.base _ _ e1) e2 (W.ok.lim.keeps ok.rel.base) (F.code.keeps ok.rel.base) F.body (.of_eq rfl) (by decide +kernel) (by
    intro x hx
    simp only [List.mem_cons, List.not_mem_nil, or_false] at hx
    rcases hx with rfl | rfl <;> rfl) (fun h₀ hns hkp => ?_) F.co F.gen F.kind
  have hL : s.heap.get? s.heap.objs.size = none := get_size_none _
  obtain ⟨oL, es, ep, n1, n2, _, _⟩ := id hns
  obtain ⟨f1, f2, f3⟩ := ok.rel.fresh hL
  obtain ⟨outer, q1, q2⟩ := ok.frames
  obtain ⟨m, hm⟩ : ∃ m : Str → Option Value, m = fun (x : Str) => (([("a", v), ("b", u)] : List (Str × Value)).reverse).lookup x := ⟨_, rfl⟩
  rw [← hm] at hns
  have hmb : m "b" = some u := by rw [hm]; rfl
  clear hm
  have rel : RelH Z ρ σ { s with heap := h₀, toks := s.toks + 2 } := ok.rel.grow hkp
  obtain ⟨t0, rfl⟩ : ∃ t, u = .int 0 t := by apply RepV.elim r2; intro t; exact ⟨t, rfl⟩
  have hd : "ZeroDivisionError" ∈ fns.map (fun _ => "ZeroDivisionError") := by decide
  obtain ⟨b1, b2⟩ := bv_all W ("ZeroDivisionError", .type "ZeroDivisionError") (by decide)
  refine wpAny_execs_cons (wpAny_If ?_)
  refine wpAny_isTrue_Compare1 ?_ rfl
  refine wpAny_Name (wpAny_loadName_local (m := m) rfl rfl hns hmb ?_) rfl
  refine wpAny_Constant_int ?_
  refine P.eq_int ?_
  refine wpAny_truthy_bool ?_
  dsimp only
  rw [if_pos (show ((0 : Int) == 0) = true from rfl)]
  refine wpAny_execs_cons ?_
  refine Raise_classB ok.handled excClass_ZeroDivisionError (by rw [isSubtype_type]; kernel_rfl) (Name_function_global rfl rfl (loadGlobal_builtin (rel.g W.ok) b1 (rel.b W.ok) b2 ⟨rfl, rfl⟩) rfl) fun h' e hx => ?_
  obtain ⟨oe, x0, x1, x2, x3⟩ := hx.there
  have hin : ∀ b o, s.heap.get? b = some o → h'.get? b = some o := fun b o q => hx.keeps b o (hkp b o q)
  refine wpAny_leaving_firstW (base := hideAll s.heap (outer.filterMap (·.frame))) (env := callEnv _ s.heap.objs.size 102) (outer := outer) (L := s.heap.objs.size) (a0 := x0) (vs := #[x0, .none, .none, .none, .bool false, .none]) (oe := oe) (phi_deeper q1) ?_ rfl x1 ?_ ?_ x3 rfl rfl ?_
  · refine ⟨(fun q => nomatch q), ⟨_, oL, rfl, ?_, hx.keeps _ _ n1, fun vs q => by rw [n2] at q; cases q⟩, ?_⟩
    · cases q : (hideAll s.heap (outer.filterMap (·.frame))).get? s.heap.objs.size with
      | none => rfl
      | some o => have := of_hideAll _ q; rw [hL] at this; cases this
    · refine (frames_fun (A := A) (s := s) q2 (base := hideAll s.heap (outer.filterMap (·.frame))) fun e he L hf => hideAll_none _ (List.mem_filterMap.mpr ⟨e, he, hf⟩)).of_keeps fun b o q _ => ⟨o, hin b o q, rfl⟩
  · exact fun b o q => hin b o (of_hideAll _ q)
  · cases q : (hideAll s.heap (outer.filterMap (·.frame))).get? e with
    | none => rfl
    | some o => have := hkp _ _ (of_hideAll _ q); rw [hx.new] at this; cases this
  · rintro h'' ⟨k1, ⟨_, _, k2⟩, k3, k4⟩
    refine ⟨_, rfl, outer, e, x0, q1, rfl, ⟨k1, ?_, k2, ?_⟩, ?_, rfl, rfl⟩
    · cases q : (hideAll s.heap (outer.filterMap (·.frame))).get? e with
      | none => rfl
      | some o => have := hkp _ _ (of_hideAll _ q); rw [hx.new] at this; cases this
    · rw [x2] at k3; exact k3
    · exact (Heap.UpToSlots.of_keeps hin).trans k4

/-- a def's contract, the activation's place among the frames told -/
theorem CallC.fnF (hZ : Z.Ok) {a : Addr} {fd : FuncData} {body : List Stmt} {names : List Str} {rs : List SV} {f : AF} (F : IsFn Z a fd body) (hbind : ∀ vs : List Value, vs.length = rs.length → bindArgs fd ⟨vs, []⟩ = pure (names.zip vs)) (hnl : names.length = rs.length)
    (hcell : ∀ x ∈ fd.scope.names, x.2 ≠ .cell) (hloc : ∀ n ∈ names, fd.scope.names.lookup n = some .local) (hnd : names.Nodup)
    (h : ∀ A s ρ env outer, A.frames = some (env :: outer) → env.frame = some env.locals → Okh Z D A ρ σ s → FrH Z ⟨fd.qualname, fd.scope, fd.code, []⟩ env ρ (names.zip rs) s → wpAny (model Z.prog Z.w) A (execs body env) (PostS Z D A ⟨fd.qualname, fd.scope, fd.code, []⟩ env ρ s loc' σ' (fun ρ h fl => RepF ρ h f fl)) bot s) : CallC Z (D + 1) (.fix (.ref a)) rs σ (retOf f) σ' := by
  intro A s ρ v vs ok r1 rv
  apply RepV.elim r1
  obtain ⟨o, ho, hd⟩ := F.obj
  have hmap : (names.zip vs).map (·.1) = names := by
    rw [← List.unzip_fst, List.unzip_zip (by rw [hnl, rv.1])]
  refine codeAny_call_def (fd := fd) (body := body) (binds := names.zip vs) (by have := ok.depth; (first | lia | omega)) (ok.rel.base _ _ ho) hd (hZ.lim.keeps ok.rel.base) (F.code.keeps ok.rel.base) F.body (.of_eq (hbind vs rv.1.symm)) hcell
    (fun x hx => hloc x.1 (by rw [← hmap]; exact List.mem_map_of_mem hx)) (fun h₀ hns hkp => ?_) F.co F.gen F.kind
  have hL : s.heap.get? s.heap.objs.size = none := get_size_none _
  obtain ⟨oL, es, ep, e1, e2, _, _⟩ := id hns
  have rel : RelH Z ρ σ { s with heap := h₀, toks := s.toks + (names.zip vs).length } := ok.rel.grow hkp
  obtain ⟨f1, f2, f3⟩ := ok.rel.fresh hL
  have st1 : Step A [] ρ s ρ { s with heap := h₀, toks := s.toks + (names.zip vs).length } := .of_keep hkp
  have fr : FrH Z ⟨fd.qualname, fd.scope, fd.code, []⟩ (callEnv fd s.heap.objs.size a) ρ (names.zip rs) { s with heap := h₀, toks := s.toks + (names.zip vs).length } :=
    ⟨rfl, F.kind, F.glob, F.bltn, rfl, rfl, rfl, ⟨by show fd.closure = _; rw [F.clos]; rfl, by simp⟩, f1, f2, f3, ⟨_, hns, by
      have := zip_rep (names := names) (rv.mono st1.mono)
      have e : (fun x => (names.zip vs).reverse.lookup x) = fun x => (names.zip vs).lookup x := funext fun x => lookup_rev (by rw [hmap]; exact hnd) x
      rw [e]; exact this⟩⟩
  obtain ⟨outer, q1, _⟩ := ok.frames
  exact wpAny_mono (h _ _ ρ _ outer (phi_deeper q1) rfl (ok.enter (env := callEnv fd s.heap.objs.size a) hkp rel rfl F.kind hL e1 e2) fr) (fun fl s' p => leave_body ok st1 hL rfl p) fun _ _ x => x.elim

theorem c_refused (W : W39 Z) (hD : 2 ≤ D) {a : Int} : CallC Z D (.fix (.ref 231)) [.int a, .int 0] σ (.bool true) σ := by
  obtain ⟨D, rfl⟩ : ∃ k, D = k + 1 + 1 := ⟨D - 2, by (first | lia | omega)⟩
  have F := isFn_of W (a := 231) rfl rfl rfl rfl rfl rfl rfl rfl rfl rfl rfl
  refine CallC.fnF (f := .ret (.bool true)) (names := ["above", "below"]) (loc' := [("above", .int a), ("below", .int 0)]) W.ok F (fun vs h => by obtain ⟨a, b, rfl⟩ := list2 h; rfl) rfl (by decide +kernel) (by decide +kernel) (by decide +kernel) ?_
  clear F
  intro A s ρ env outer hA hf ok fr
  refine wpAny_execs_cons (wpAny_Try_except ?_)
  refine wpAny_execs_cons (wpAny_Expr_any ?_ fr.inter rfl)
  refine wpAny_Call_ofName ?_
  refine wpAny_mono (EvE.gl W (v := .ref 102) rfl rfl rfl A s ρ env ok fr) (fun v s₁ ⟨ρ₁, k₁, st₁, r₁⟩ => ?_) fun _ _ x => x.elim
  have fr₁ := fr.step st₁
  apply RepV.elim r₁
  refine callWith_of (P := fun h => KeepAt h (.ref 102)) rfl (fun h hk => let ⟨k, x, y⟩ := hk; ⟨k, x, y _⟩) (wpAny_mono (evalArgs_of rfl (wm (?hl : wpAny _ _ _ (Post Z (D + 1) A [] ρ₁ s₁ σ (fun ρ h vs => RepVs ρ h [.int a, .int 0] vs)) bot _) ?hk)) (fun _ _ h => h) fun _ _ x => x.elim)
  · exact EvL.cons (EvE.var (by rfl) (by rfl) (by rfl)) (EvL.cons (EvE.var (by rfl) (by rfl) (by rfl)) EvL.nil fun _ => rfl) (fun _ => rfl) A s₁ ρ₁ env _ k₁ fr₁
  intro vs s₂ ⟨ρ₂, k₂, st₂, r₂⟩
  apply RepVs.elim1 r₂; intro v1 vs1 ra r3
  apply RepVs.elim1 r3; intro v2 vs2 rb r4
  apply RepVs.elim0 r4
  refine ⟨keepAt_of W.ok k₂.rel (KeepSV.fn W (by decide)) (.fix _), wpAny_call ?_⟩
  refine codeAny_mono (divmod_flies W k₂ ra rb) fun r s' q => ?_
  obtain ⟨e, rfl, outer', x, a0, qA, rfl, hfl, hsl, hg, ho⟩ := q
  rw [hA] at qA; cases qA
  have hL : env.frame = some env.locals := hf
  refine wpAny_looks_onW hA hf hfl fun h₄ hheld₄ hsm₄ => ?_
  refine wpAny_landsW hheld₄ fun h₅ hfl₅ hsm₅ => ?_
  have fin : ∀ h', Heap.FlyingW (hideAll s₂.heap ((env :: outer).filterMap (·.frame))) (env :: outer) x (.type "ZeroDivisionError") a0 h' → s'.heap.UpToSlots h' → Step A [] ρ₂ s₂ ρ₂ { s' with heap := h' } ∧ RelH Z ρ₂ σ { s' with heap := h' } := fun h' k1 k2 =>
    step_flying (s' := { s' with heap := h' }) k₂ hA k1.1 (hsl.trans k2) hg ho
  obtain ⟨st5, rel5⟩ := fin h₅ hfl₅ (hsm₄.trans hsm₅)
  have k5 := k₂.after st5 rel5
  have fr5 := (fr₁.step st₂).step st5
  obtain ⟨ob, hob, hobc⟩ := hfl₅.there
  obtain ⟨b1, b2⟩ := bv_all W ("ZeroDivisionError", .type "ZeroDivisionError") (by decide)
  refine wpAny_handleBy_builtin (X := "ZeroDivisionError") (T := "ZeroDivisionError") (b := true) (by rw [isSubtype_type]; kernel_rfl) (by first | (rw [isSubtype_type]; kernel_rfl) | rfl) (by rw [isSubtype_type]; kernel_rfl)
    (Name_function_global fr5.kind' ((fr5.kindOf _).trans rfl) (loadGlobal_builtin (by rw [fr5.glob]; exact rel5.g W.ok) b1 (by rw [fr5.bltn]; exact rel5.b W.ok) b2 ⟨rfl, ⟨ob, hob, hobc⟩, ?_⟩) rfl)
  rw [if_pos rfl]
  refine lands_againW hfl₅ fun h₆ hfl₆ hsm₆ => ?_
  obtain ⟨st6, rel6⟩ := fin h₆ hfl₆ ((hsm₄.trans hsm₅).trans hsm₆)
  have k6 := k₂.after st6 rel6
  have fr6 := (fr₁.step st₂).step st6
  refine wpAny_execs_cons (wpAny_Return_some (wpAny_Constant_bool ?_))
  exact ⟨ρ₂, k6, (((st₁.trans st₂).trans st6).at), fr6, .ret (.bool true)⟩
end
section
variable {Z : Zt} {D : Nat} {σ σ' σ₂ : List SObj} {κ : Ctx} {loc loc' loc₁ : Loc}

theorem compute_powers (W : W39 Z) (hD : 1 ≤ D) {w : Int} (hw : w ≤ 2048) : CallC Z D (.fix (.ref 46)) [.int w, .int 5, .int 2048] [] (.obj 0) [.dict []] := by
  obtain ⟨D, rfl⟩ : ∃ k, D = k + 1 := ⟨D - 1, by omega⟩
  have F := isFn_of W (a := 46) rfl rfl rfl rfl rfl rfl rfl rfl rfl rfl rfl
  have key : CallC Z (D + 1) (.fix (.ref 46)) [.int w, .int 5, .int 2048] [] (.obj 3) [.set [], .set [], .set [], .dict []] := by
    refine CallC.fnD (f := .ret (.obj 3)) (names := ["w", "base", "more_than", "show"]) (ns := _) (loc := [("w", .int w), ("base", .int 5), ("more_than", .int 2048), ("show", .bool false)]) W F (fun s ρ vs rel h => ?_) rfl rfl (by decide +kernel) (by decide +kernel) (by decide +kernel) rfl fun κ C hcd => ?_
    · obtain ⟨a, b, c, rfl⟩ := list3 h
      exact BindsTo.of_defaults (T := 39) rfl (rel.base _ _ (W.ok.k _ _ (by rw [W.K]; rfl))) rfl rfl rfl
    clear F
    dsimp only at C
    have hc : ∃ (c : Addr) (o : Obj) (vs : Array Value), κ.cd = .ref c ∧ Z.H0.get? c = some o ∧ o.data = .fields vs := ⟨45, _, _, hcd, W.ok.k _ _ (by rw [W.K]; rfl), rfl⟩
    apply Exists.intro
    apply XSs.cons
    · walk_at "my s"
    apply XSs.cons
    · walk_at "my s"
    apply XSs.cons
    · apply XS.assign
      · apply XE.set1 hc
        · walk_at "my e"
        · rfl
        · rfl
        · exact fun _ => rfl
      · walk_at "my a"
      · exact fun _ => rfl
      · exact fun _ => rfl
      · exact fun _ => rfl
    have t1 : decide (w ≤ 2048) = true := decide_eq_true hw
    apply XSs.cons
    · apply XS.while (n := 1)
      refine LoopW.turn (g := .cont) (loc₁ := [("w", .int w), ("base", .int 5), ("more_than", .int 2048), ("show", .bool false), ("seen", .obj 0), ("need", .obj 1), ("ws", .obj 2)]) (loc₂ := [("w", .int w), ("base", .int 5), ("more_than", .int 2048), ("show", .bool false), ("seen", .obj 0), ("need", .obj 1), ("ws", .obj 2)])
        (σ₁ := [.set [], .set [], .set [w]]) (σ₂ := [.set [], .set [], .set []]) (σ₃ := [.set [], .set [], .set []]) ?_ ?_ (.inr rfl) (.stop ?_)
      · apply XT.h
        walk_at "my t"
      · apply XSs.h
        apply XSs.cons
        · walk_at "my s"
        apply XSs.stop
        · apply XS.ifT
          · apply XT.or2
            · walk_at "my t"
            · walk_at "my t"
          · walk_at "my ss"
        · intro h; cases h
      · apply XT.h
        walk_at "my t"
    walk_at "my ss"
  exact key.pick [3] (fun _ _ => Nat.zero_le _) (by simp) (.cons (o₂ := .dict []) rfl (.dict .nil) .nil) (.obj rfl) (Nat.zero_le _)
end
section
variable {Z : Zt} {D : Nat} {σ σ' σ₂ : List SObj} {κ : Ctx} {loc loc' loc₁ : Loc}

/-- a text by its signs -/
noncomputable def tx (l : List Nat) : Str := ⟨l.toArray⟩
noncomputable def sg (x : Str) : List Nat := x.cps.toList
theorem tx_sg (x : Str) : tx (sg x) = x := by unfold tx sg; simp
theorem sg_tx (l : List Nat) : sg (tx l) = l := by unfold tx sg; simp
theorem sg_len (x : Str) : (sg x).length = x.length := by unfold sg Str.length; simp
theorem tx_len (l : List Nat) : (tx l).length = l.length := by unfold tx Str.length; simp
theorem sg_inj {x y : Str} (h : sg x = sg y) : x = y := by rw [← tx_sg x, h, tx_sg]
theorem tx_app (a b : List Nat) : tx a ++ tx b = tx (a ++ b) := by
  apply sg_inj; rw [sg_tx]; show (a.toArray ++ b.toArray).toList = _; simp
theorem sg_app (x y : Str) : sg (x ++ y) = sg x ++ sg y := by
  rw [← tx_sg x, ← tx_sg y, tx_app, sg_tx, sg_tx, sg_tx]
theorem cut_eq (x : Str) (lo hi : Option Int) : strCut x lo hi = StrLaws.sliceText x lo hi := by
  unfold strCut StrLaws.sliceText; simp
theorem cut_nat {x : Str} {a b : Nat} (hab : a ≤ b) (hb : b ≤ x.length) : strCut x (some (a : Int)) (some (b : Int)) = tx (((sg x).drop a).take (b - a)) := by
  rw [cut_eq, StrLaws.sliceText_nat x hab hb]; rfl
theorem cut_full {x : Str} : strCut x (some 0) (some (x.length : Int)) = x := by
  have := cut_nat (x := x) (a := 0) (b := x.length) (Nat.zero_le _) (Nat.le_refl _)
  rw [show (some (0 : Int)) = some ((0 : Nat) : Int) from rfl, this, Nat.sub_zero, List.drop_zero, List.take_of_length_le (by rw [sg_len]; exact Nat.le_refl _), tx_sg]

noncomputable def csS : List (Str × Nat) := [("w5pow", 0), ("s", 3), ("inner", 1), ("DIGLIM", 2)]
noncomputable def stS (k : CloT) (x : Str) : List SObj := [.cell (some (.obj 4)), .cell (some (.clos k csS)), .cell (some (.int 2048)), .cell (some (.str x)), .dict []]
noncomputable def S2I (Z : Zt) (n : Int) (x : Str) (k : CloT) : Prop := ∀ (D : Nat), 1 ≤ D → CallC Z D (.clos k csS) [.int 0, .int x.length] (stS k x) (.int n) (stS k x)

theorem c_str_to_int (W : W39 Z) (hD : 2 ≤ D) {x : Str} {n : Int} (hn : PySem.intText? x = some n) (hx : x.length ≤ 640) : CallC Z D (.fix (.ref 53)) [.str x] [] (.int n) [] := by
  obtain ⟨D, rfl⟩ : ∃ k, D = k + 1 := ⟨D - 1, by (first | lia | omega)⟩
  have F := isFn_of W (a := 53) rfl rfl rfl rfl rfl rfl rfl rfl rfl rfl rfl
  have hlen : (x.length : Int) ≤ 2048 := by (first | lia | omega)
  have hcp := (compute_powers W (D := D) (w := x.length) (by (first | lia | omega)) hlen)
  have key : ∃ σ', CallC Z (D + 1) (.fix (.ref 53)) [.str x] [] (retOf (.ret (.int n))) σ' ∧ ∃ τ, σ' = [] ++ τ := by
    refine CallC.defE (names := ["s"]) (cn := [("w5pow", 3), ("inner", 2), ("DIGLIM", 1), ("s", 0)]) (loc := []) (cs := [.cell none, .cell none, .cell none, .cell (some (.str x))]) W F (fun vs h => by obtain ⟨a, rfl⟩ := list1 h; rfl) rfl rfl (fun m => by rfl) (by decide +kernel) (by decide +kernel) (by rfl) (by rfl) fun κ C cn cc => ?_
    clear F
    dsimp only at C cn cc
    apply consE
    · walk_at "my s"
    apply fdefE (cs := csS) (i := 1) (Fact := S2I Z n x)
    · exact XS.fdef (T := ⟨52, 48, ⟨50, 4, 54, 74⟩, "_str_to_int_inner.<locals>.inner"⟩) W C (by simp [tabs39]) cc (by rw [cn]; decide +kernel) rfl rfl rfl (fun _ => rfl) (by intro x hx; refine ⟨_, ?_, rfl⟩; show x ∈ ([("w5pow", 0), ("inner", 1), ("DIGLIM", 2), ("s", 3)] : List (Str × Nat)); revert x; decide +kernel) (fun env ρ h => by obtain ⟨⟩ := env; cases h; rfl) rfl rfl
    · clear C cn cc κ
      intro D hD
      obtain ⟨D, rfl⟩ : ∃ k, D = k + 1 := ⟨D - 1, by (first | lia | omega)⟩
      refine CallC.closX (f := .ret (.int n)) (names := ["a", "b"]) (loc := [("a", .int 0), ("b", .int x.length)]) W (fun vs c t pm cd doc an h => by obtain ⟨a, b, rfl⟩ := list2 h; rfl) rfl rfl (by decide +kernel) (by decide +kernel) (by decide +kernel) rfl rfl rfl rfl fun κ C => ?_
      dsimp only at C ⊢
      have ht : decide ((x.length : Int) - 0 ≤ 2048) = true := decide_eq_true (by (first | lia | omega))
      have hn2 : PySem.intText? (strCut x (some 0) (some (x.length : Int))) = some n := by rw [cut_full]; exact hn
      have hx2 : (strCut x (some 0) (some (x.length : Int))).length ≤ 640 := by rw [cut_full]; exact hx
      have hx3 : x.length ≤ sizeLine := Nat.le_trans hx (by decide)
      unfold stS
      apply Exists.intro
      walk_at "my ss"
    · intro k hk
      have hi := hk D (by (first | lia | omega))
      unfold stS at hi
      have hc2 : CallC Z D (.fix (.ref 46)) [.int x.length, .int 5, .int 2048] [.cell none, .cell (some (.clos k csS)), .cell (some (.int 2048)), .cell (some (.str x))] (.obj 4) [.cell none, .cell (some (.clos k csS)), .cell (some (.int 2048)), .cell (some (.str x)), .dict []] := by
        refine hcp.frame (es := []) .nil .nil (.closed (.fix _)) (.closed (by simp; exact ⟨.int _, .int _, .int _⟩)) (by simp) ?_ (fun j hj _ => ?_) ?_
        · exact .cons (o₂ := .dict []) rfl (.dict .nil) .nil
        · match j, hj with
          | 0, _ => rfl
          | 1, _ => rfl
          | 2, _ => rfl
          | 3, _ => rfl
          | j + 4, h => exact absurd h (by show ¬ j + 4 < 4; (first | lia | omega))
        · exact .obj rfl
      clear hcp
      apply endE
      · walk_at "my ss"
      · exact ⟨_, rfl⟩
  obtain ⟨σ', key, τ, rfl⟩ := key
  exact key.drop0 (.int _)

theorem rstripK {prog : Program} {w : World} {A : Around} {E : Value → Shared → Prop} {s : Shared} {x : Str} {t : Tok} {Q : Value → Shared → Prop} (h : ∀ t' k, s.toks ≤ k → Q (.str (Txt.rstrip x) t') { s with toks := k }) (hsz : x.length ≤ sizeLine) : wpAny (model prog w) A (call (.builtin "str.rstrip") [.str x t]) Q E s := by
  refine call_gives F.slot_str_rstrip (typeIs_str _ _ _) F.entry_str_rstrip (F.args_str_rstrip_1 _) (gives_str_rstrip x t) ?_
  unfold Txt.rstrip Txt.stripBy at h
  split
  · rename_i q
    rw [if_pos q] at h
    exact h t s.toks (Nat.le_refl _)
  · rename_i q
    rw [if_neg q] at h
    exact ⟨fits_stripped _ _ _ hsz, h _ _ (Nat.le_succ _)⟩

theorem ev_replace {ns : List (Str × NameKind)} {cs : List (Str × Nat)} (C : Cx κ ns cs) (hk : ns.lookup (Str.ofString "s") = some .local) {x y : Str} (hs : loc.lookup (Str.ofString "s") = some (.str x)) (hy : Txt.replace (Txt.rstrip x) "_" "" = y) (hx : x.length ≤ 600) (hr : (Txt.rstrip x).length ≤ 600)
    {A : Around} {s : Shared} {ρ : List Addr} {env : Env} (ht : 1 ≤ s.toks) (ok : Okh Z D A ρ σ s) (fr : FrH Z κ env ρ loc s) :
    wpAny (model Z.prog Z.w) A (eval (.Call (.Attribute (.Call (.Attribute (.Name "s" ⟨58, 8, 58, 9⟩) "rstrip" ⟨58, 8, 58, 16⟩) [] [] ⟨58, 8, 58, 18⟩) "replace" ⟨58, 8, 58, 26⟩) [.Constant (.str "_") 0 ⟨58, 27, 58, 30⟩, .Constant (.str "") 0 ⟨58, 32, 58, 34⟩] [] ⟨58, 8, 58, 35⟩) env) (Post Z D A [] ρ s σ (isV (.str y))) bot s := by
  obtain ⟨m, n1, n2⟩ := fr.ns
  obtain ⟨v, e1, rv⟩ := ns_get n2 hs
  obtain ⟨t0, rfl⟩ := rv.strE
  obtain ⟨pl1, hm1⟩ : ∃ pl : Sem Bool, eval (.Call (.Attribute (.Call (.Attribute (.Name "s" ⟨58, 8, 58, 9⟩) "rstrip" ⟨58, 8, 58, 16⟩) [] [] ⟨58, 8, 58, 18⟩) "replace" ⟨58, 8, 58, 26⟩) [.Constant (.str "_") 0 ⟨58, 27, 58, 30⟩, .Constant (.str "") 0 ⟨58, 32, 58, 34⟩] [] ⟨58, 8, 58, 35⟩) env = (do
      let ov ← eval (.Call (.Attribute (.Name "s" ⟨58, 8, 58, 9⟩) "rstrip" ⟨58, 8, 58, 16⟩) [] [] ⟨58, 8, 58, 18⟩) env
      standAt (⟨58, 8, 58, 26⟩ : Pos).atName
      let (f, first) ← holding [ov] (getMethod ov "replace" pl)
      callWith ⟨58, 8, 58, 35⟩ f first (backTo ⟨58, 8, 58, 35⟩ (starEach [.Constant (.str "_") 0 ⟨58, 27, 58, 30⟩, .Constant (.str "") 0 ⟨58, 32, 58, 34⟩] env)) []) := ⟨_, rfl⟩
  obtain ⟨pl2, hm2⟩ : ∃ pl : Sem Bool, eval (.Call (.Attribute (.Name "s" ⟨58, 8, 58, 9⟩) "rstrip" ⟨58, 8, 58, 16⟩) [] [] ⟨58, 8, 58, 18⟩) env = (do
      let ov ← eval (.Name "s" ⟨58, 8, 58, 9⟩) env
      standAt (⟨58, 8, 58, 16⟩ : Pos).atName
      let (f, first) ← holding [ov] (getMethod ov "rstrip" pl)
      callWith ⟨58, 8, 58, 18⟩ f first (backTo ⟨58, 8, 58, 18⟩ (starEach [] env)) []) := ⟨_, rfl⟩
  have kb : ∀ (h : Heap) (id : String), KeepAt h (.builtin id) := fun h id => ⟨.machine, .inr (.inl rfl), fun M => Looks.now⟩
  refine MethodCall_ (pl := pl1) ?_ hm1
  refine MethodCall_ (pl := pl2) ?_ hm2
  refine wpAny_Name (wpAny_loadName_local fr.kind' ((fr.kindOf _).trans (C.names ▸ hk)) n1 e1 ?_) rfl
  refine GM.rstrip ?_
  refine callWith_gen (es := []) rfl (wpAny_items_nil ⟨kb _ _, ?_⟩)
  refine rstripK (fun t' k hkk => ?_) (Nat.le_trans hx (by decide))
  refine GM.replace ?_
  refine callWith_gen (es := [.Constant (.str "_") 0 ⟨58, 27, 58, 30⟩, .Constant (.str "") 0 ⟨58, 32, 58, 34⟩]) rfl (wpAny_items_cons (wpAny_Constant_str (wpAny_items_cons (wpAny_Constant_str (wpAny_items_nil ⟨kb _ _, ?_⟩)) rfl)) rfl)
  have hk1 : k ≠ 0 := by (first | lia | omega)
  refine SC.replace (u := k) (v := k + 1) hk1 (Nat.succ_ne_zero k) (Nat.ne_of_lt (Nat.lt_succ_self k)) rfl (by have e0 : (Str.ofString "").length = 0 := rfl; rw [e0]; (first | lia | omega)) fun t2 k2 => ?_
  rw [hy]
  exact Post.now ok _ (.str _ _)

/-- a def's contract, its frame's tokens counted -/
theorem CallC.defT (W : W39 Z) {a : Addr} {fd : FuncData} {body : List Stmt} {names : List Str} {rs : List SV} {f : AF} {ns : List (Str × NameKind)} (F : IsFn Z a fd body) (hbind : ∀ vs : List Value, vs.length = rs.length → bindArgs fd ⟨vs, []⟩ = pure (names.zip vs)) (hnl : names.length = rs.length)
    (hns : fd.scope.names = ns) (hcell : ∀ x ∈ ns, x.2 ≠ .cell) (hloc : ∀ n ∈ names, ns.lookup n = some .local) (hnd : names.Nodup) (hl : names.zip rs = loc)
    (h : ∀ κ, Cx κ ns [] → ∀ A s ρ env, names.length ≤ s.toks → Okh Z D A ρ σ s → FrH Z κ env ρ loc s → wpAny (model Z.prog Z.w) A (execs body env) (PostS Z D A κ env ρ s loc' σ' (fun ρ h fl => RepF ρ h f fl)) bot s) : CallC Z (D + 1) (.fix (.ref a)) rs σ (retOf f) σ' := by
  subst hns hl
  exact CallC.fnT W.ok F hbind hnl hcell hloc hnd fun A s ρ env hk ok fr => h _ ⟨rfl, rfl⟩ A s ρ env hk ok fr

theorem c_int_from_string (W : W39 Z) (hD : 3 ≤ D) {x y : Str} {n : Int} (hy : Txt.replace (Txt.rstrip x) "_" "" = y) (hn : PySem.intText? y = some n) (hx : x.length ≤ 600) (hr : (Txt.rstrip x).length ≤ 600) (hl : y.length ≤ 640) : CallC Z D (.fix (.ref 60)) [.str x] σ (.int n) σ := by
  refine CallC.any ?_ (.fix _) (by simp; exact .str _) (.int _)
  obtain ⟨D, rfl⟩ : ∃ k, D = k + 1 := ⟨D - 1, by (first | lia | omega)⟩
  have F := isFn_of W (a := 60) rfl rfl rfl rfl rfl rfl rfl rfl rfl rfl rfl
  have hc := c_str_to_int W (D := D) (by (first | lia | omega)) hn hl
  refine CallC.defT (f := .ret (.int n)) (names := ["s"]) (loc := [("s", .str x)]) (loc' := [("s", .str y)]) W F (fun vs h => by obtain ⟨a, rfl⟩ := list1 h; rfl) rfl rfl (by decide +kernel) (by decide +kernel) (by decide +kernel) rfl ?_
  clear F
  intro κ C A s ρ env hk ok fr
  dsimp only at C
  refine wpAny_execs_cons (wpAny_Assign_stores (wm (ev_replace C rfl rfl hy hx hr hk ok fr) fun v s₁ ⟨ρ₁, k₁, st₁, r₁⟩ => ?_) rfl rfl)
  refine wm ((XA.var (loc' := [("s", .str y)]) C rfl .here).h A s₁ ρ₁ env v k₁ (fr.step st₁) r₁) fun _ s₂ ⟨ρ₂, k₂, st₂, f₂, _⟩ => ?_
  refine wm ((?r : XSs Z D κ [("s", .str y)] [] _ (.ret (.int n)) [("s", .str y)] []).h A s₂ ρ₂ env k₂ f₂) fun _ _ p => p.since (st₁.at.trans st₂)
  walk_at "my ss"
end
section
variable {Z : Zt} {D : Nat} {σ σ' σ₂ : List SObj} {κ : Ctx} {loc loc' loc₁ : Loc}

theorem c_unmatched (W : W39 Z) (hD : 1 ≤ D) {x : Str} {i j : Nat} (hx : x.length ≤ 1000) (hl : (strCut x none (some (i : Int))).length + (strCut x (some (j : Int)) none).length ≤ sizeLine) : CallC Z D (.fix (.ref 109)) [.mtch x i j] σ (.str (strCut x none (some (i : Int)) ++ strCut x (some (j : Int)) none)) σ := by
  refine CallC.any ?_ (.fix _) (by simp; exact .mtch _ _ _) (.str _)
  obtain ⟨D, rfl⟩ : ∃ k, D = k + 1 := ⟨D - 1, by (first | lia | omega)⟩
  have F := isFn_of W (a := 109) rfl rfl rfl rfl rfl rfl rfl rfl rfl rfl rfl
  refine CallC.def (f := .ret (.str (strCut x none (some (i : Int)) ++ strCut x (some (j : Int)) none))) (names := ["match"]) (loc := [("match", .mtch x i j)]) W F (fun vs h => by obtain ⟨a, rfl⟩ := list1 h; rfl) rfl rfl (by decide +kernel) (by decide +kernel) (by decide +kernel) rfl fun κ C => ?_
  clear F
  dsimp only at C
  have hx2 : x.length ≤ sizeLine := Nat.le_trans hx (by decide)
  apply Exists.intro
  walk_at "my ss"

/-- a name is told for one -/
theorem c_is_HDN_no (W : W39 Z) (hD : 1 ≤ D) {x : Str} {i j : Nat} (h : endR x = some (some (i, j))) (hx : x.length ≤ 1000) : CallC Z D (.fix (.ref 121)) [.str x] σ (.bool false) σ := by
  refine CallC.any ?_ (.fix _) (by simp; exact .str _) (.bool _)
  obtain ⟨D, rfl⟩ : ∃ k, D = k + 1 := ⟨D - 1, by (first | lia | omega)⟩
  have F := isFn_of W (a := 121) rfl rfl rfl rfl rfl rfl rfl rfl rfl rfl rfl
  refine CallC.def (f := .ret (.bool false)) (names := ["text"]) (loc := [("text", .str x)]) W F (fun vs h => by obtain ⟨a, rfl⟩ := list1 h; rfl) rfl rfl (by decide +kernel) (by decide +kernel) (by decide +kernel) rfl fun κ C => ?_
  clear F
  dsimp only at C
  have hx2 : x.length < 2 ^ 60 := Nat.lt_of_le_of_lt hx (by decide)
  have hs : ∀ σ, XK Z D (.fix (.builtin "re.Pattern.search")) [.fix (.ref 114), .str x] σ (.mtch x i j) σ := fun σ => XK.search W h hx2
  have hs0 := hs []
  apply Exists.intro
  walk_at "my ss"
theorem c_is_HDN_yes (W : W39 Z) (hD : 1 ≤ D) {x : Str} {c d : Nat} (h : endR x = some none) (hx : x.length ≤ 1000) (t0 : (x == Str.ofString "") = false) (hc : (seqIndex? 0 x.length).bind (x.cps[·]?) = some c) (hd : (seqIndex? (-1) x.length).bind (x.cps[·]?) = some d)
    (t1 : ((⟨#[c]⟩ : Str) == Str.ofString ".") = false) (t2 : ((⟨#[d]⟩ : Str) == Str.ofString ".") = false) : CallC Z D (.fix (.ref 121)) [.str x] σ (.bool true) σ := by
  refine CallC.any ?_ (.fix _) (by simp; exact .str _) (.bool _)
  obtain ⟨D, rfl⟩ : ∃ k, D = k + 1 := ⟨D - 1, by (first | lia | omega)⟩
  have F := isFn_of W (a := 121) rfl rfl rfl rfl rfl rfl rfl rfl rfl rfl rfl
  refine CallC.def (f := .ret (.bool true)) (names := ["text"]) (loc := [("text", .str x)]) W F (fun vs h => by obtain ⟨a, rfl⟩ := list1 h; rfl) rfl rfl (by decide +kernel) (by decide +kernel) (by decide +kernel) rfl fun κ C => ?_
  clear F
  dsimp only at C
  have hx2 : x.length < 2 ^ 60 := Nat.lt_of_le_of_lt hx (by decide)
  have hs : ∀ σ, XK Z D (.fix (.builtin "re.Pattern.search")) [.fix (.ref 114), .str x] σ .none σ := fun σ => XK.search W h hx2
  have hs0 := hs []
  clear hs
  apply Exists.intro
  apply XSs.cons
  · walk_at "my s"
  apply XSs.cons
  · walk_at "my s"
  apply XSs.cons
  · walk_at "my s"
  walk_at "my ss"
end
section
variable {Z : Zt} {D : Nat} {σ σ' σ₂ : List SObj} {κ : Ctx} {loc loc' loc₁ : Loc}

theorem loop_while {test : Expr} {body : List Stmt} {N : Nat} (inv : Nat → Loc) (st : Nat → List SObj) (stop : XT Z D κ (inv N) (st N) test false (st N))
    (step : ∀ k, k < N → XT Z D κ (inv k) (st k) test true (st k) ∧ ∃ ext, XSs Z D κ (inv k) (st k) body .next (inv (k + 1) ++ ext) (st (k + 1))) :
    ∀ n k, k + n = N → LoopW Z D κ test body n (inv k) (st k) .next (inv N) (st N)
  | 0, k, h => by
    have : k = N := by (first | lia | omega)
    subst this
    exact .stop stop.h
  | n + 1, k, h => by
    obtain ⟨h1, ext, h2⟩ := step k (by (first | lia | omega))
    exact .turn h1.h (h2.forget ext).h (.inl rfl) (loop_while inv st stop step n (k + 1) (by (first | lia | omega)))

/-- one step down -/
noncomputable def dUnit (way turn : Int) (p : Int × Int) : Int := way * (turn * way * p.2).fdiv (turn * p.1)
noncomputable def dStep (way turn : Int) (p : Int × Int) : Int × Int := (turn * (turn * way * p.2).fmod (turn * p.1), p.2 * dUnit way turn p)
noncomputable def dn (way turn : Int) (p : Int × Int) : Nat → Int × Int
  | 0 => p
  | k + 1 => dStep way turn (dn way turn p k)
noncomputable def unitsD (way turn : Int) (p : Int × Int) (n : Nat) : List Int := (List.range n).map fun k => dUnit way turn (dn way turn p k)
noncomputable def pileOf (name : Str) (row : List Int) : Str := row.foldl (fun p u => p ++ Str.ofString "." ++ Str.ofString (toString u)) name
noncomputable def pairV (p : Int × Int) : SV := .tup [.int p.1, .int p.2]
noncomputable def seenV (way turn : Int) (p : Int × Int) (n : Nat) : List SV := (List.range (n + 1)).map fun k => pairV (dn way turn p k)
theorem pairV_lt {p : Int × Int} : SV.Lt 0 (pairV p) := .tup (fun i x hx => by
  have := List.mem_of_getElem? hx; simp at this; rcases this with rfl | rfl <;> exact .int _)
theorem seenV_lt {way turn : Int} {p : Int × Int} {n : Nat} : ∀ x ∈ seenV way turn p n, SV.Lt 0 x := fun x hx => by
  unfold seenV at hx
  obtain ⟨k, _, rfl⟩ := List.mem_map.mp hx
  exact pairV_lt
theorem pile_succ (name : Str) (row : List Int) (u : Int) : pileOf name (row ++ [u]) = pileOf name row ++ Str.ofString "." ++ Str.ofString (toString u) := by
  unfold pileOf; rw [List.foldl_append]; rfl
theorem unitsD_succ (way turn : Int) (p : Int × Int) (n : Nat) : unitsD way turn p (n + 1) = unitsD way turn p n ++ [dUnit way turn (dn way turn p n)] := by
  unfold unitsD; rw [List.range_succ, List.map_append]; rfl
theorem seenV_succ (way turn : Int) (p : Int × Int) (n : Nat) : seenV way turn p (n + 1) = seenV way turn p n ++ [pairV (dn way turn p (n + 1))] := by
  unfold seenV; rw [List.range_succ (n := n + 1), List.map_append]; rfl

/-- what the numbers on the way down keep -/
structure DownOk (way turn : Int) (p : Int × Int) (n : Nat) (name : Str) : Prop where
  hw : way = 1 ∨ way = -1
  ht : turn = 1 ∨ turn = -1
  hpos : ∀ k, k < n → 0 < (dn way turn p k).1
  hstop : (dn way turn p n).1 ≤ 0
  ho : ∀ k, k ≤ n → (dn way turn p k).1.natAbs < 2 ^ 390
  hu : ∀ k, k ≤ n → (dn way turn p k).2.natAbs < 2 ^ 390
  hq : ∀ k, k < n → Sz (dUnit way turn (dn way turn p k))
  hlen : ∀ k, k ≤ n → (pileOf name (unitsD way turn p k)).length ≤ 1000
  hn : n ≤ 1000

theorem sz_unit {a : Int} (h : a = 1 ∨ a = -1) : Sz a := by unfold Sz; rcases h with e | e <;> rw [e] <;> decide
theorem abs_unit {a b : Int} (h : a = 1 ∨ a = -1) : (a * b).natAbs = b.natAbs := by rcases h with e | e <;> rw [e] <;> simp

theorem c_down (W : W39 Z) (hD : 17 ≤ D) {way turn : Int} {p : Int × Int} {n : Nat} {name : Str} (H : DownOk way turn p n name) :
    CallC Z D (.fix (.ref 238)) [.str name, .int p.1, .int p.2, .int way, .int turn] [] (.tup [.str (pileOf name (unitsD way turn p n)), .obj 0]) [.list (seenV way turn p n)] := by
  obtain ⟨D, rfl⟩ : ∃ k, D = k + 1 := ⟨D - 1, by (first | lia | omega)⟩
  have F := isFn_of W (a := 238) rfl rfl rfl rfl rfl rfl rfl rfl rfl rfl rfl
  refine CallC.def (f := .ret (.tup [.str (pileOf name (unitsD way turn p n)), .obj 0])) (names := ["pile", "over", "under", "way", "turn"]) (loc := [("pile", .str name), ("over", .int p.1), ("under", .int p.2), ("way", .int way), ("turn", .int turn)]) W F (fun vs h => by obtain ⟨a, b, c, d, e, rfl⟩ := list5 h; rfl) rfl rfl (by decide +kernel) (by decide +kernel) (by decide +kernel) rfl fun κ C => ?_
  clear F
  dsimp only at C
  have P390 : (2 : Nat) ^ 390 < 2 ^ 399 := Nat.pow_lt_pow_right (by (first | lia | omega)) (by (first | lia | omega))
  have P1000 : (2 : Nat) ^ 390 < 2 ^ 1000 := Nat.pow_lt_pow_right (by (first | lia | omega)) (by (first | lia | omega))
  have sw := sz_unit H.hw
  have stt := sz_unit H.ht
  have stw : Sz (turn * way) := by unfold Sz; rw [abs_unit H.ht]; exact sw
  apply Exists.intro
  apply XSs.cons
  · walk_at "my s"
  apply XSs.cons
  · apply XS.while (n := n)
    refine loop_while (N := n) (fun k => [("pile", .str (pileOf name (unitsD way turn p k))), ("over", .int (dn way turn p k).1), ("under", .int (dn way turn p k).2), ("way", .int way), ("turn", .int turn), ("seen", .obj 0)]) (fun k => [.list (seenV way turn p k)]) ?_ (fun k hk => ?_) n 0 (by (first | lia | omega))
    · have t0 : decide ((dn way turn p n).1 > 0) = false := decide_eq_false (by have := H.hstop; (first | lia | omega))
      walk_at "my t"
    · have hp := H.hpos k hk
      have t0 : decide ((dn way turn p k).1 > 0) = true := decide_eq_true hp
      have so : Sz (dn way turn p k).1 := Nat.lt_trans (H.ho k (by (first | lia | omega))) P1000
      have su : Sz (dn way turn p k).2 := Nat.lt_trans (H.hu k (by (first | lia | omega))) P1000
      have ne : turn * (dn way turn p k).1 ≠ 0 := by
        have := abs_unit (b := (dn way turn p k).1) H.ht
        (first | lia | omega)
      have hdm : CallC Z D (.fix (.ref 102)) [.int (turn * way * (dn way turn p k).2), .int (turn * (dn way turn p k).1)] [.list (seenV way turn p k)] _ _ := c_int_divmod W (D := D) (by (first | lia | omega)) ne (by rw [Int.mul_assoc, abs_unit H.ht, abs_unit H.hw]; exact Nat.lt_trans (H.hu k (by (first | lia | omega))) P390) (by rw [abs_unit H.ht]; exact Nat.lt_trans (H.ho k (by (first | lia | omega))) P390)
      have sq := H.hq k hk
      have sc : Sz ((turn * way * (dn way turn p k).2).fdiv (turn * (dn way turn p k).1)) := by
        have := abs_unit (b := (turn * way * (dn way turn p k).2).fdiv (turn * (dn way turn p k).1)) H.hw
        unfold dUnit Sz at sq
        unfold Sz
        rw [← this]; exact sq
      have sr : Sz ((turn * way * (dn way turn p k).2).fmod (turn * (dn way turn p k).1)) := by
        have h1 := H.ho (k + 1) (by (first | lia | omega))
        have : (dn way turn p (k + 1)).1 = turn * (turn * way * (dn way turn p k).2).fmod (turn * (dn way turn p k).1) := rfl
        rw [this, abs_unit H.ht] at h1
        exact Nat.lt_trans h1 P1000
      have l1 := H.hlen k (by (first | lia | omega))
      have l2 := H.hlen (k + 1) (by (first | lia | omega))
      rw [unitsD_succ, pile_succ, strLen_append] at l2
      have e1 : (pileOf name (unitsD way turn p k)).length + (Str.ofString ".").length ≤ sizeLine := Nat.le_trans (Nat.add_le_add l1 (Nat.le_refl _)) (by decide)
      have e2 : (pileOf name (unitsD way turn p k) ++ Str.ofString ".").length + (Str.ofString (toString (way * (turn * way * (dn way turn p k).2).fdiv (turn * (dn way turn p k).1)))).length ≤ sizeLine := Nat.le_trans l2 (by decide)
      have hsl : (seenV way turn p k).length ≤ sizeLine := by unfold seenV; rw [List.length_map, List.length_range]; exact Nat.le_trans (show k + 1 ≤ 1001 by have := H.hn; (first | lia | omega)) (by decide)
      refine ⟨by walk_at "my t", [("count", .int ((turn * way * (dn way turn p k).2).fdiv (turn * (dn way turn p k).1))), ("rest", .int ((turn * way * (dn way turn p k).2).fmod (turn * (dn way turn p k).1)))], ?_⟩
      rw [unitsD_succ, pile_succ, seenV_succ]
      show XSs Z D κ _ _ _ _ (([("pile", SV.str (pileOf name (unitsD way turn p k) ++ Str.ofString "." ++ Str.ofString (toString (way * (turn * way * (dn way turn p k).2).fdiv (turn * (dn way turn p k).1))))), ("over", .int (turn * (turn * way * (dn way turn p k).2).fmod (turn * (dn way turn p k).1))), ("under", .int ((dn way turn p k).2 * (way * (turn * way * (dn way turn p k).2).fdiv (turn * (dn way turn p k).1)))), ("way", .int way), ("turn", .int turn), ("seen", .obj 0)] : Loc) ++ _)
        [.list (seenV way turn p k ++ [.tup [.int (turn * (turn * way * (dn way turn p k).2).fmod (turn * (dn way turn p k).1)), .int ((dn way turn p k).2 * (way * (turn * way * (dn way turn p k).2).fdiv (turn * (dn way turn p k).1)))]])]
      unfold dUnit at sq
      walk_at "my ss"
  walk_at "my ss"
end
section
variable {Z : Zt} {D : Nat} {σ σ' σ₂ : List SObj} {κ : Ctx} {loc loc' loc₁ : Loc}


/-- a word is this number's -/
noncomputable def numB (x : Str) (n : Int) : Bool := (PySem.intText? (Txt.replace (Txt.rstrip x) (Str.ofString "_") (Str.ofString "")) == some n) && decide (x.length ≤ 600) && decide ((Txt.rstrip x).length ≤ 600) && decide ((Txt.replace (Txt.rstrip x) (Str.ofString "_") (Str.ofString "")).length ≤ 640)
theorem c_num (W : W39 Z) (hD : 3 ≤ D) {x : Str} {n : Int} (h : numB x n = true) : CallC Z D (.fix (.ref 60)) [.str x] σ (.int n) σ := by
  unfold numB at h
  simp only [Bool.and_eq_true, decide_eq_true_eq, beq_iff_eq] at h
  exact c_int_from_string W hD rfl h.1.1.1 h.1.1.2 h.1.2 h.2

/-- the way up -/
noncomputable def upS (way : Int) (U : Nat → Int) (p : Int × Int) : Nat → (Int × Int) × Int
  | 0 => (p, 0)
  | k + 1 => (((((upS way U p k).1.2.fdiv (U k) - way * (upS way U p k).1.1).fdiv (U k)), (upS way U p k).1.2.fdiv (U k)), (upS way U p k).2 + ((upS way U p k).1.2.fmod (U k) + ((upS way U p k).1.2.fdiv (U k) - way * (upS way U p k).1.1).fmod (U k)))
noncomputable def backV (way : Int) (U : Nat → Int) (p : Int × Int) (n : Nat) : List SV := (List.range (n + 1)).map fun k => pairV (upS way U p k).1
theorem backV_succ (way : Int) (U : Nat → Int) (p : Int × Int) (n : Nat) : backV way U p (n + 1) = backV way U p n ++ [pairV (upS way U p (n + 1)).1] := by
  unfold backV; rw [List.range_succ (n := n + 1), List.map_append]; rfl

structure UpOk (way : Int) (P : Nat → Str) (U : Nat → Int) (p : Int × Int) (N : Nat) : Prop where
  hw : way = 1 ∨ way = -1
  hfound : ∀ k, k < N → ∃ i j, endR (P k) = some (some (i, j)) ∧ numB (strCut (cutN (P k) i j) (some 1) none) (U k) = true ∧ strCut (P k) none (some (i : Int)) ++ strCut (P k) (some (j : Int)) none = P (k + 1)
  hstop : endR (P N) = some none
  hlen : ∀ k, k ≤ N → (P k).length ≤ 1000
  hU : ∀ k, k < N → U k ≠ 0 ∧ (U k).natAbs < 2 ^ 390
  ho : ∀ k, k ≤ N → (upS way U p k).1.1.natAbs < 2 ^ 390
  hu : ∀ k, k ≤ N → (upS way U p k).1.2.natAbs < 2 ^ 390
  hn : N ≤ 1000

theorem endF {P : Nat → Str} {N : Nat} {way : Int} {U : Nat → Int} {p : Int × Int} (H : UpOk way P U p N) : ∃ F : Nat → SV, (∀ k, k < N → ∃ i j, F k = .mtch (P k) i j ∧ endR (P k) = some (some (i, j)) ∧ numB (strCut (cutN (P k) i j) (some 1) none) (U k) = true ∧ strCut (P k) none (some (i : Int)) ++ strCut (P k) (some (j : Int)) none = P (k + 1)) ∧ F N = .none ∧ ∀ k, k ≤ N → ∃ r, endR (P k) = some r ∧ F k = mOf (P k) r := by
  refine ⟨fun k => match endR (P k) with | some r => mOf (P k) r | none => .none, fun k hk => ?_, ?_, fun k hk => ?_⟩
  · obtain ⟨i, j, h1, h2, h3⟩ := H.hfound k hk
    exact ⟨i, j, by simp only [h1]; rfl, h1, h2, h3⟩
  · simp only [H.hstop]; rfl
  · by_cases q : k < N
    · obtain ⟨i, j, h1, _⟩ := H.hfound k q
      exact ⟨_, h1, by simp only [h1]⟩
    · obtain rfl : k = N := by (first | lia | omega)
      exact ⟨_, H.hstop, by simp only [H.hstop]⟩

theorem c_up (W : W39 Z) (hD : 17 ≤ D) {way : Int} {P : Nat → Str} {U : Nat → Int} {p : Int × Int} {N : Nat} (H : UpOk way P U p N) :
    CallC Z D (.fix (.ref 245)) [.str (P 0), .int p.1, .int p.2, .int way] [] (.tup [.str (P N), .obj 0, .int (upS way U p N).2]) [.list (backV way U p N)] := by
  obtain ⟨D, rfl⟩ : ∃ k, D = k + 1 := ⟨D - 1, by (first | lia | omega)⟩
  have F' := isFn_of W (a := 245) rfl rfl rfl rfl rfl rfl rfl rfl rfl rfl rfl
  obtain ⟨F, hF, hFN, hFr⟩ := endF H
  refine CallC.def (f := .ret (.tup [.str (P N), .obj 0, .int (upS way U p N).2])) (names := ["pile", "over", "under", "way"]) (loc := [("pile", .str (P 0)), ("over", .int p.1), ("under", .int p.2), ("way", .int way)]) W F' (fun vs h => by obtain ⟨a, b, c, d, rfl⟩ := list4 h; rfl) rfl rfl (by decide +kernel) (by decide +kernel) (by decide +kernel) rfl fun κ C => ?_
  clear F'
  dsimp only at C
  have P390 : (2 : Nat) ^ 390 < 2 ^ 399 := Nat.pow_lt_pow_right (by (first | lia | omega)) (by (first | lia | omega))
  have P391 : (2 : Nat) ^ 390 + 2 ^ 390 ≤ 2 ^ 399 := by
    have : (2 : Nat) ^ 391 = 2 ^ 390 * 2 := Nat.pow_succ ..
    have h2 : (2 : Nat) ^ 391 ≤ 2 ^ 399 := Nat.pow_le_pow_right (by (first | lia | omega)) (by (first | lia | omega))
    (first | lia | omega)
  have P1000 : (2 : Nat) ^ 390 < 2 ^ 1000 := Nat.pow_lt_pow_right (by (first | lia | omega)) (by (first | lia | omega))
  have sw := sz_unit H.hw
  have hsr : ∀ k, k ≤ N → ∀ σ, XK Z D (.fix (.builtin "re.Pattern.search")) [.fix (.ref 114), .str (P k)] σ (F k) σ := fun k hk σ => by
    obtain ⟨r, h1, h2⟩ := hFr k hk
    rw [h2]
    exact XK.search W h1 (Nat.lt_of_le_of_lt (H.hlen k hk) (by decide))
  apply Exists.intro
  apply XSs.cons
  · walk_at "my s"
  apply XSs.cons
  · walk_at "my s"
  have h0 := hsr 0 (by (first | lia | omega)) [.list [.tup [.int p.1, .int p.2]]]
  apply XSs.cons
  · walk_at "my s"
  apply XSs.cons
  · apply XS.while (n := N)
    refine loop_while (N := N) (fun k => [("pile", .str (P k)), ("over", .int (upS way U p k).1.1), ("under", .int (upS way U p k).1.2), ("way", .int way), ("back", .obj 0), ("spare", .int (upS way U p k).2), ("found", F k)]) (fun k => [.list (backV way U p k)]) ?_ (fun k hk => ?_) N 0 (by (first | lia | omega))
    · rw [hFN]
      walk_at "my t"
    · obtain ⟨i, j, e1, e2, e3, e4⟩ := hF k hk
      have so : Sz (upS way U p k).1.1 := Nat.lt_trans (H.ho k (by (first | lia | omega))) P1000
      have su : Sz (upS way U p k).1.2 := Nat.lt_trans (H.hu k (by (first | lia | omega))) P1000
      obtain ⟨n0, nb⟩ := H.hU k hk
      have l1 := H.hlen k (by (first | lia | omega))
      have l2 := H.hlen (k + 1) (by (first | lia | omega))
      have hx2 : (P k).length ≤ sizeLine := Nat.le_trans l1 (by decide)
      have hx3 : (cutN (P k) i j).length ≤ sizeLine := Nat.le_trans (by show ((P k).cps.extract i j).size ≤ (P k).cps.size; simp; (first | lia | omega)) hx2
      have l3 : (strCut (P k) none (some (i : Int))).length + (strCut (P k) (some (j : Int)) none).length ≤ sizeLine := by rw [← strLen_append, e4]; exact Nat.le_trans l2 (by decide)
      have cn := c_num W (D := D) (σ := [.list (backV way U p k)]) (by (first | lia | omega)) e3
      have cu := c_unmatched W (D := D) (σ := [.list (backV way U p k)]) (by (first | lia | omega)) l1 l3
      rw [e4] at cu
      have cd1 : CallC Z D (.fix (.ref 102)) [.int (upS way U p k).1.2, .int (U k)] [.list (backV way U p k)] _ _ := c_int_divmod W (D := D) (by (first | lia | omega)) n0 (Nat.lt_trans (H.hu k (by (first | lia | omega))) P390) (Nat.lt_trans nb P390)
      have hb1 : ((upS way U p k).1.2.fdiv (U k)).natAbs < 2 ^ 390 := H.hu (k + 1) (by (first | lia | omega))
      have hb2 : (way * (upS way U p k).1.1).natAbs < 2 ^ 390 := by rw [abs_unit H.hw]; exact H.ho k (by (first | lia | omega))
      have cd2 : CallC Z D (.fix (.ref 102)) [.int ((upS way U p k).1.2.fdiv (U k) - way * (upS way U p k).1.1), .int (U k)] [.list (backV way U p k)] _ _ := c_int_divmod W (D := D) (by (first | lia | omega)) n0 (by have := Int.natAbs_sub_le ((upS way U p k).1.2.fdiv (U k)) (way * (upS way U p k).1.1); (first | lia | omega)) (Nat.lt_trans nb P390)
      have hsl : (backV way U p k).length ≤ sizeLine := by unfold backV; rw [List.length_map, List.length_range]; exact Nat.le_trans (show k + 1 ≤ 1001 by have := H.hn; (first | lia | omega)) (by decide)
      have h1 := hsr (k + 1) (by (first | lia | omega)) (([.list (backV way U p k)] : List SObj).set 0 (.list (backV way U p k ++ [pairV (upS way U p (k + 1)).1])))
      rw [e1]
      refine ⟨by walk_at "my t", [("unit", .int (U k)), ("none", .int ((upS way U p k).1.2.fmod (U k))), ("rest", .int (((upS way U p k).1.2.fdiv (U k) - way * (upS way U p k).1.1).fmod (U k)))], ?_⟩
      rw [backV_succ]
      clear hsr hFr hF hFN P390 P391 P1000
      walk_at "my ss"
  rw [hFN]
  walk_at "my ss"
end
section
variable {Z : Zt} {D : Nat} {σ σ' σ₂ : List SObj} {κ : Ctx} {loc loc' loc₁ : Loc}

theorem XS.fdefL (W : W39 Z) {ns : List (Str × NameKind)} {cs cs₀ : List (Str × Nat)} (C : Cx κ ns cs₀) {T : TabT} {name : Str} {params : Arguments} {body : List Stmt} {scope : Scope} (hT : T ∈ tabs39) (hcd : κ.cd = .ref T.c) (hq : κ.name ++ ".<locals>." ++ name = T.qual) (hg : ns.lookup name = some .local)
    (hd0 : params.defaults = []) (hk0 : params.kw_defaults = []) (ha : ∀ env, annTrees params none env = []) (hcs : ∀ x ∈ cs, ∃ i, x ∈ cs₀ ∧ i = x.2)
    (hcl : ∀ (env : Env) (ρ : List Addr), env.cells = addrsOf ρ cs₀ → closureFor scope env = pure (addrsOf ρ cs))
    (hu : Upd loc name (.clos ⟨name, T.qual, params, body, scope⟩ cs) loc') : XS Z D κ loc σ (.FunctionDef name params body [] none [] scope none name T.pos) .next loc' σ :=
  ⟨.fdef W.ok (W.tabs ▸ hT) hcd hq (by rw [C.names, hg]; simp) hd0 hk0 ha (by rw [C.cells]; exact hcs) (fun env ρ _ h => hcl env ρ (C.cells ▸ h)) (.var (C.names ▸ hg) hu)⟩
theorem fdefL {P : List SObj → Prop} {st : Stmt} {rest : List Stmt} {f : AF} {k : CloT} {cs : List (Str × Nat)} (Fact : CloT → Prop) {L : SV → Loc} (h1 : XS Z D κ loc σ st .next (L (.clos k cs)) σ) (inner : Fact k) (h2 : ∀ k, Fact k → ∃ loc' σ', XSs Z D κ (L (.clos k cs)) σ rest f loc' σ' ∧ P σ') :
    ∃ loc' σ', XSs Z D κ loc σ (st :: rest) f loc' σ' ∧ P σ' := consE h1 (h2 k inner)

noncomputable def white0 : Str := "\n\t\r "
noncomputable def csR : List (Str × Nat) := [("text", 1), ("place", 0)]
noncomputable def iniD (fp : SV) (b : Nat) : List (Str × SV) := [("lineno", .int 1), ("instream", fp), ("whitespace", .str white0), ("pushback", .obj b)]
noncomputable def holdD (k : CloT) : List (Str × SV) := [("lineno", .int 1), ("instream", .none), ("whitespace", .str white0), ("pushback", .obj 4), ("read", .clos k csR)]
noncomputable def stL (k : CloT) (text W : Str) (p : Nat) (L : Int) : List SObj :=
  [.cell (some (.obj 2)), .cell (some (.str text)), .list [.int p], .dict (holdD k), .list [], .dict [("lineno", .int L), ("instream", .inst 159 3), ("whitespace", .str W), ("pushback", .obj 6)], .list []]

theorem c_init_a (W : W39 Z) (hD : 1 ≤ D) {c0 c1 c2 : SObj} : CallC Z D (.fix (.ref 135)) [.inst 159 3, .none] [c0, c1, c2, .dict []] .none [c0, c1, c2, .dict (iniD .none 4), .list []] := by
  obtain ⟨D, rfl⟩ : ∃ k, D = k + 1 := ⟨D - 1, by (first | lia | omega)⟩
  have F := isFn_of W (a := 135) rfl rfl rfl rfl rfl rfl rfl rfl rfl rfl rfl
  refine CallC.def (f := .next) (names := ["self", "fp"]) (loc := [("self", .inst 159 3), ("fp", .none)]) W F (fun vs h => by obtain ⟨a, b, rfl⟩ := list2 h; rfl) rfl rfl (by decide +kernel) (by decide +kernel) (by decide +kernel) rfl fun κ C => ?_
  clear F
  dsimp only at C
  apply Exists.intro
  walk_at "my ss"
theorem c_init_b (W : W39 Z) (hD : 1 ≤ D) {c0 c1 c2 c3 c4 : SObj} : CallC Z D (.fix (.ref 135)) [.inst 159 5, .inst 159 3] [c0, c1, c2, c3, c4, .dict []] .none [c0, c1, c2, c3, c4, .dict (iniD (.inst 159 3) 6), .list []] := by
  obtain ⟨D, rfl⟩ : ∃ k, D = k + 1 := ⟨D - 1, by (first | lia | omega)⟩
  have F := isFn_of W (a := 135) rfl rfl rfl rfl rfl rfl rfl rfl rfl rfl rfl
  refine CallC.def (f := .next) (names := ["self", "fp"]) (loc := [("self", .inst 159 5), ("fp", .inst 159 3)]) W F (fun vs h => by obtain ⟨a, b, rfl⟩ := list2 h; rfl) rfl rfl (by decide +kernel) (by decide +kernel) (by decide +kernel) rfl fun κ C => ?_
  clear F
  dsimp only at C
  apply Exists.intro
  walk_at "my ss"

/-- the sign at a place, as a text -/
noncomputable def chAt (x : Str) (p : Nat) : Str := match (sg x)[p]? with | some c => ⟨#[c]⟩ | none => Str.ofString ""
theorem cut_one (x : Str) (p : Nat) : strCut x (some (p : Int)) (some ((p : Int) + 1)) = chAt x p := by
  unfold chAt
  by_cases h : p < x.length
  · have e : (sg x)[p]? = some ((sg x)[p]'(by rw [sg_len]; exact h)) := List.getElem?_eq_getElem _
    have := cut_nat (x := x) (a := p) (b := p + 1) (by (first | lia | omega)) (by (first | lia | omega))
    rw [show ((p : Int) + 1) = ((p + 1 : Nat) : Int) from rfl, this, e, show p + 1 - p = 1 from by (first | lia | omega)]
    have h2 : p < (sg x).length := by rw [sg_len]; exact h
    rw [List.drop_eq_getElem_cons h2, List.take_succ_cons, List.take_zero]
    rfl
  · have e : (sg x)[p]? = none := List.getElem?_eq_none (by rw [sg_len]; (first | lia | omega))
    rw [e]
    have hi : Builtin.Str.strSliceIndices (some (p : Int)) (some ((p : Int) + 1)) 1 x.length = [] := by
      have h1 : ¬ ((p : Int) < 0) := by (first | lia | omega)
      have h2 : ¬ ((p : Int) + 1 < 0) := by (first | lia | omega)
      have e1 : max (0 : Int) (min (p : Int) (x.length : Int)) = x.length := by (first | lia | omega)
      have e2 : max (0 : Int) (min ((p : Int) + 1) (x.length : Int)) = x.length := by (first | lia | omega)
      simp only [Builtin.Str.strSliceIndices, sliceRange, h1, h2, if_false, e1, e2, show ((1 : Int) > 0) = True from by simp, if_true]
      simp
    unfold strCut
    rw [hi]
    by_cases hz : x.length = 0
    · rw [hz]
      have : x = Str.ofString "" := sg_inj (by
        have h0 : (sg x).length = 0 := by rw [sg_len]; exact hz
        rw [List.length_eq_zero_iff.mp h0]; rfl)
      rw [this]; rfl
    · have : (([] : List Nat).length == x.length) = false := by simp; (first | lia | omega)
      rw [this]; rfl

/-- what read does -/
noncomputable def RdF (Z : Zt) (text : Str) (k : CloT) : Prop := ∀ (D p : Nat) (W : Str) (L : Int), 1 ≤ D → CallC Z D (.clos k csR) [.int 1] (stL k text W p L) (.str (chAt text p)) (stL k text W (p + 1) L)

theorem c_reader (W : W39 Z) (hD : 4 ≤ D) {text white : Str} (ht : text.length ≤ 100000) : ∃ k, RdF Z text k ∧ CallC Z D (.fix (.ref 177)) [.str text, .str white] [] (.inst 159 5) (stL k text white 0 1) := by
  obtain ⟨D, rfl⟩ : ∃ k, D = k + 1 := ⟨D - 1, by (first | lia | omega)⟩
  have F := isFn_of W (a := 177) rfl rfl rfl rfl rfl rfl rfl rfl rfl rfl rfl
  have key : ∃ σ', CallC Z (D + 1) (.fix (.ref 177)) [.str text, .str white] [] (retOf (.ret (.inst 159 5))) σ' ∧ ∃ k, RdF Z text k ∧ σ' = stL k text white 0 1 := by
    refine CallC.defE (names := ["text", "white"]) (cn := [("place", 1), ("text", 0)]) (loc := [("white", .str white)]) (cs := [.cell none, .cell (some (.str text))]) W F (fun vs h => by obtain ⟨a, b, rfl⟩ := list2 h; rfl) rfl rfl (fun m => by rfl) (by decide +kernel) (by decide +kernel) (by rfl) (by rfl) fun κ C cn cc => ?_
    clear F
    dsimp only at C cn cc
    apply consE
    · walk_at "my s"
    apply fdefL (cs := csR) (L := fun v => [("white", .str white), ("read", v)]) (Fact := RdF Z text)
    · exact XS.fdefL (cs := csR) (T := ⟨176, 172, ⟨201, 4, 204, 40⟩, "_law_reader.<locals>.read"⟩) W C (by simp [tabs39]) cc (by rw [cn]; decide +kernel) rfl rfl rfl (fun _ => rfl) (by intro x hx; refine ⟨_, ?_, rfl⟩; show x ∈ ([("place", 0), ("text", 1)] : List (Str × Nat)); revert x; decide +kernel) (fun env ρ h => by obtain ⟨⟩ := env; cases h; rfl) (Upd.there rfl Upd.new)
    · clear C cn cc κ
      intro D p W' L hD
      obtain ⟨D, rfl⟩ : ∃ k, D = k + 1 := ⟨D - 1, by (first | lia | omega)⟩
      refine CallC.closX (f := .ret (.str (chAt text p))) (names := ["count"]) (loc := [("count", .int 1)]) W (fun vs c t pm cd doc an h => by obtain ⟨a, rfl⟩ := list1 h; rfl) rfl rfl (by decide +kernel) (by decide +kernel) (by decide +kernel) rfl rfl rfl rfl fun κ C => ?_
      dsimp only at C ⊢
      have hx3 : text.length ≤ sizeLine := Nat.le_trans ht (by decide)
      rw [← cut_one]
      unfold stL
      have e1 : ((p + 1 : Nat) : Int) = (p : Int) + 1 := rfl
      rw [e1]
      apply Exists.intro
      walk_at "my ss"
    · intro k hk
      have m1 := CallC.make (fs := []) (C := 159) (fI := 135) (D := D - 1) W.ok (makes159 W) (min159 W (Str.ofString "__init__", 135) (by unfold meths159; simp)).1 (min159 W (Str.ofString "__init__", 135) (by unfold meths159; simp)).2 (σ := [.cell (some (.obj 2)), .cell (some (.str text)), .list [.int 0]]) (rs := [.none]) (c_init_a W (by (first | lia | omega)))
      have m2 := CallC.make (fs := []) (C := 159) (fI := 135) (D := D - 1) W.ok (makes159 W) (min159 W (Str.ofString "__init__", 135) (by unfold meths159; simp)).1 (min159 W (Str.ofString "__init__", 135) (by unfold meths159; simp)).2 (σ := [.cell (some (.obj 2)), .cell (some (.str text)), .list [.int 0], .dict (holdD k), .list []]) (rs := [.inst 159 3]) (c_init_b W (by (first | lia | omega)))
      rw [show D - 1 + 1 = D from by (first | lia | omega)] at m1 m2
      apply endE
      · walk_at "my ss"
      · exact ⟨k, hk, rfl⟩
  obtain ⟨σ', key, k, hk, rfl⟩ := key
  exact ⟨k, hk, key⟩
end
section
variable {Z : Zt} {D : Nat} {σ σ' σ₂ : List SObj} {κ : Ctx} {loc loc' loc₁ : Loc}

noncomputable def nlI (x : Str) : Int := if (x == Str.ofString "\n") = true then 1 else 0
theorem c_read_char (W : W39 Z) (hD : 2 ≤ D) {text white : Str} {k : CloT} (hk : RdF Z text k) {p : Nat} {L : Int} :
    CallC Z D (.fix (.ref 142)) [.inst 159 5] (stL k text white p L) (.str (chAt text p)) (stL k text white (p + 1) (L + nlI (chAt text p))) := by
  obtain ⟨D, rfl⟩ : ∃ k, D = k + 1 := ⟨D - 1, by omega⟩
  have F := isFn_of W (a := 142) rfl rfl rfl rfl rfl rfl rfl rfl rfl rfl rfl
  have hr := hk D p white L (by omega)
  unfold stL at hr ⊢
  unfold nlI
  cases hn : (chAt text p == Str.ofString "\n") with
  | true =>
    refine CallC.def (f := .ret (.str (chAt text p))) (names := ["self"]) (loc := [("self", .inst 159 5)]) W F (fun vs h => by obtain ⟨a, rfl⟩ := list1 h; rfl) rfl rfl (by decide +kernel) (by decide +kernel) (by decide +kernel) rfl fun κ C => ?_
    clear F
    dsimp only at C
    apply Exists.intro
    walk_at "my ss"
  | false =>
    rw [show L + (if false = true then (1 : Int) else 0) = L from Int.add_zero L]
    refine CallC.def (f := .ret (.str (chAt text p))) (names := ["self"]) (loc := [("self", .inst 159 5)]) W F (fun vs h => by obtain ⟨a, rfl⟩ := list1 h; rfl) rfl rfl (by decide +kernel) (by decide +kernel) (by decide +kernel) rfl fun κ C => ?_
    clear F
    dsimp only at C
    apply Exists.intro
    walk_at "my ss"
end
section
variable {Z : Zt} {D : Nat} {σ σ' σ₂ : List SObj} {κ : Ctx} {loc loc' loc₁ : Loc}

/-- what names only the first so many stays as it is -/
theorem RenV.idn {es : List Nat} {n : Nat} {x : SV} (l : SV.Lt n x) (he : ∀ i, i < n → es[i]? = some i) : RenV es x x := by
  induction l with
  | none => exact .none
  | bool b => exact .bool b
  | int i => exact .int i
  | str x => exact .str x
  | fix v => exact .fix v
  | obj h => exact .obj (he _ h)
  | inst h => exact .inst (he _ h)
  | tup _ ih => exact .tup rfl fun i x y e1 e2 => by rw [e1] at e2; cases e2; exact ih i x e1
  | @clos k cs h => exact .clos rfl fun i x y e1 e2 => by rw [e1] at e2; cases e2; exact ⟨rfl, he _ (h _ (List.mem_of_getElem? e1))⟩
  | meth _ ih => exact .meth ih
  | mtch x i j => exact .mtch x i j
  | rng k => exact .rng k
  | slice => exact .slice _ _ _
theorem RenVs.idn {es : List Nat} {n : Nat} {xs : List SV} (l : ∀ x ∈ xs, SV.Lt n x) (he : ∀ i, i < n → es[i]? = some i) : RenVs es xs xs :=
  ⟨rfl, fun i x y e1 e2 => by rw [e1] at e2; cases e2; exact .idn (l x (List.mem_of_getElem? e1)) he⟩
theorem RenD.idn {es : List Nat} {n : Nat} (he : ∀ i, i < n → es[i]? = some i) : ∀ {fs : List (Str × SV)}, (∀ p ∈ fs, SV.Lt n p.2) → RenD es fs fs
  | [], _ => .nil
  | (k, x) :: fs, l => .cons (.idn (l _ (.head _)) he) (RenD.idn he fun p hp => l p (.tail _ hp))
theorem RenO.idn {es : List Nat} {n : Nat} {x : SObj} (l : SObj.Lt n x) (he : ∀ i, i < n → es[i]? = some i) : RenO es x x := by
  cases l with
  | list e => exact .list (.idn (fun x hx => let ⟨i, hi⟩ := List.mem_iff_getElem?.mp hx; e i x hi) he)
  | dict e => exact .dict (.idn he e)
  | @cell v e =>
    cases v with
    | none => exact .cell0
    | some v => exact .cell (.idn (e v rfl) he)
  | listIt e => exact .listIt (he _ e)
  | revIt e => exact .revIt (he _ e)
  | rangeIt => exact .rangeIt _ _
  | strIt => exact .strIt _ _
  | callIt e => exact .callIt (.idn e he)
  | set => exact .set _
  | callEnd => exact .callEnd
  | junk => exact .junk
theorem Emb.map {es : List Nat} {τ : List SObj} : ∀ {σ : List SObj} {js : List Nat}, σ.length = js.length → (∀ (i : Nat) (o : SObj) (j : Nat), σ[i]? = some o → js[i]? = some j → ∃ o₂, τ[j]? = some o₂ ∧ RenO es o o₂) → Emb es τ σ js
  | [], [], _, _ => .nil
  | [], _ :: _, h, _ => by simp at h
  | _ :: _, [], h, _ => by simp at h
  | o :: σ, j :: js, h, k => by
    obtain ⟨o₂, h1, h2⟩ := k 0 o j rfl rfl
    exact .cons h1 h2 (Emb.map (by simpa using h) fun i o j e1 e2 => k (i + 1) o j (by simpa using e1) (by simpa using e2))
/-- the same, more objects behind -/
theorem CallC.ext {f r : SV} {args : List SV} (τ : List SObj) (h : CallC Z D f args σ r σ') (hl : σ'.length = σ.length) (s1 : ∀ (i : Nat) (o : SObj), σ[i]? = some o → SObj.Lt σ.length o) (s2 : ∀ (i : Nat) (o : SObj), σ'[i]? = some o → SObj.Lt σ.length o)
    (hf : SV.Lt σ.length f) (ha : ∀ x ∈ args, SV.Lt σ.length x) (hr : SV.Lt σ.length r) : CallC Z D f args (σ ++ τ) r (σ' ++ τ) := by
  have e0 : (σ' ++ τ).length - (σ ++ τ).length = 0 := by simp [hl]
  have he : ∀ i, i < σ.length → (List.range σ.length)[i]? = some i := fun i hi => by rw [List.getElem?_range hi]
  refine h.frame (es := List.range σ.length) List.nodup_range (Emb.map (by simp) fun i o j e1 e2 => ?_) (.idn hf he) (.idn ha he) (by simp [hl]) ?_ (fun j hj hn => ?_) ?_
  · have hi : i < σ.length := (List.getElem?_eq_some_iff.mp e1).1
    rw [he i hi] at e2; cases e2
    exact ⟨o, by rw [List.getElem?_append_left hi]; exact e1, .idn (s1 i o e1) he⟩
  · rw [e0, List.range'_zero, List.append_nil]
    refine Emb.map (by simp [hl]) fun i o j e1 e2 => ?_
    have hi : i < σ.length := by rw [← hl]; exact (List.getElem?_eq_some_iff.mp e1).1
    rw [he i hi] at e2; cases e2
    exact ⟨o, by rw [List.getElem?_append_left (by (first | lia | omega))]; exact e1, .idn (s2 i o e1) he⟩
  · have : σ.length ≤ j := by
      apply Nat.le_of_not_lt; intro hlt; exact hn (List.mem_range.mpr hlt)
    rw [List.getElem?_append_right (by (first | lia | omega)), List.getElem?_append_right this, hl]
  · rw [e0, List.range'_zero, List.append_nil]
    exact .idn hr he

theorem stL_lt {k : CloT} {text white : Str} {p : Nat} {L : Int} : ∀ (i : Nat) (o : SObj), (stL k text white p L)[i]? = some o → SObj.Lt 7 o := fun i o e => by
  have hc : SV.Lt 7 (.clos k csR) := .clos (by unfold csR; intro x hx; simp at hx; rcases hx with rfl | rfl <;> decide)
  have := List.mem_of_getElem? e
  unfold stL at this
  simp only [List.mem_cons, List.not_mem_nil, or_false] at this
  rcases this with rfl | rfl | rfl | rfl | rfl | rfl | rfl
  · exact .cell fun x e => by cases e; exact .obj (by decide)
  · exact .cell fun x e => by cases e; exact .str _
  · exact .list fun i x e => by have := List.mem_of_getElem? e; simp at this; subst this; exact .int _
  · refine .dict fun p hp => ?_
    unfold holdD at hp
    simp only [List.mem_cons, List.not_mem_nil, or_false] at hp
    rcases hp with rfl | rfl | rfl | rfl | rfl
    · exact .int _
    · exact .none
    · exact .str _
    · exact .obj (by decide)
    · exact hc
  · exact .list fun i x e => by simp at e
  · refine .dict fun p hp => ?_
    simp only [List.mem_cons, List.not_mem_nil, or_false] at hp
    rcases hp with rfl | rfl | rfl | rfl
    · exact .int _
    · exact .inst (by decide)
    · exact .str _
    · exact .obj (by decide)
  · exact .list fun i x e => by simp at e
theorem stL_ext {k : CloT} {text white : Str} {p p' : Nat} {L L' : Int} {f r : SV} {args : List SV} (τ : List SObj) (h : CallC Z D f args (stL k text white p L) r (stL k text white p' L')) (hf : SV.Lt 7 f) (ha : ∀ x ∈ args, SV.Lt 7 x) (hr : SV.Lt 7 r) :
    CallC Z D f args (stL k text white p L ++ τ) r (stL k text white p' L' ++ τ) := h.ext τ rfl stL_lt stL_lt hf ha hr

/-- a loop up to a sign -/
noncomputable def nlN (c : Nat) : Int := nlI ⟨#[c]⟩
noncomputable def lexG (stop : Nat → Bool) : List Nat → List Nat → Nat → Int → List Nat × Nat × Int
  | [], tok, p, L => (tok, p + 1, L)
  | [c], tok, p, L => if stop c then (tok, p + 1, L + nlN c) else if c == 92 then (tok, p + 3, L + nlN c) else (tok ++ [c], p + 2, L + nlN c)
  | c :: d :: r, tok, p, L => if stop c then (tok, p + 1, L + nlN c) else if c == 92 then lexG stop r (tok ++ [d]) (p + 2) (L + nlN c + nlN d) else lexG stop (d :: r) (tok ++ [c]) (p + 1) (L + nlN c)
noncomputable def itM : SObj := .callIt (.meth (.ref 142) (.inst 159 5))
noncomputable def locK (tok : Str) (o : Option SV) : Loc := ("self", SV.inst 159 5) :: ("token", SV.str tok) :: ("fiter", SV.obj 7) :: (match o with | none => [] | some v => [("ch", v)])
noncomputable def locG (tok : List Nat) (o : Option SV) : Loc := locK (tx tok) o
noncomputable def signs (c : Nat) : Str := ⟨#[c]⟩

theorem chAt_some {text : Str} {p c : Nat} (h : (sg text)[p]? = some c) : chAt text p = signs c := by unfold chAt; rw [h]; rfl
theorem chAt_none {text : Str} {p : Nat} (h : (sg text)[p]? = none) : chAt text p = Str.ofString "" := by unfold chAt; rw [h]
theorem nlI_empty : nlI (Str.ofString "") = 0 := by decide +kernel

theorem nxt_some (W : W39 Z) (hD : 3 ≤ D) {text white : Str} {k : CloT} (hk : RdF Z text k) {p c : Nat} {L : Int} (h : (sg text)[p]? = some c) : Nxt Z D (.obj 7) (stL k text white p L ++ [itM]) (some (.str (signs c))) (stL k text white (p + 1) (L + nlN c) ++ [itM]) := by
  obtain ⟨D, rfl⟩ : ∃ k, D = k + 1 := ⟨D - 1, by (first | lia | omega)⟩
  have hr := stL_ext [itM] (c_read_char W (D := D) (by (first | lia | omega)) hk (p := p) (L := L) (white := white)) (.fix _) (by simp; exact .inst (by decide)) (.str _)
  rw [chAt_some h] at hr
  have F := isFn_of W (a := 142) rfl rfl rfl rfl rfl rfl rfl rfl rfl rfl rfl
  obtain ⟨o, e1, e2⟩ := F.obj
  have := Nxt.call (Z := Z) (D := D) (j := 7) (b := 142) (self := .inst 159 5) (x := signs c) (σ := stL k text white p L ++ [itM]) (σ' := stL k text white (p + 1) (L + nlN c) ++ [itM]) rfl e1 e2 (CallC.meth hr) rfl
  have hne : ¬ signs c = Str.empty := fun q => by
    have := congrArg (fun x : Str => x.cps.size) q
    simp [signs, Str.empty] at this
  rw [if_neg hne, if_neg hne] at this
  exact this
theorem nxt_none (W : W39 Z) (hD : 3 ≤ D) {text white : Str} {k : CloT} (hk : RdF Z text k) {p : Nat} {L : Int} (h : (sg text)[p]? = none) : Nxt Z D (.obj 7) (stL k text white p L ++ [itM]) none (stL k text white (p + 1) L ++ [.callEnd]) := by
  obtain ⟨D, rfl⟩ : ∃ k, D = k + 1 := ⟨D - 1, by (first | lia | omega)⟩
  have hr := stL_ext [itM] (c_read_char W (D := D) (by (first | lia | omega)) hk (p := p) (L := L) (white := white)) (.fix _) (by simp; exact .inst (by decide)) (.str _)
  rw [chAt_none h, nlI_empty, Int.add_zero] at hr
  have F := isFn_of W (a := 142) rfl rfl rfl rfl rfl rfl rfl rfl rfl rfl rfl
  obtain ⟨o, e1, e2⟩ := F.obj
  have := Nxt.call (Z := Z) (D := D) (j := 7) (b := 142) (self := .inst 159 5) (x := Str.ofString "") (σ := stL k text white p L ++ [itM]) (σ' := stL k text white (p + 1) L ++ [itM]) rfl e1 e2 (CallC.meth hr) rfl
  have he : Str.ofString "" = Str.empty := rfl
  rw [if_pos he, if_pos he] at this
  exact this

/-- how a loop up to a sign ends -/
noncomputable def Ended (tok : List Nat) (f : AF) (it : SObj) : Prop := (f = .ret (.str (tx tok)) ∧ it = itM) ∨ (f = .next ∧ it = .callEnd)
theorem tx_snoc (tok : List Nat) (c : Nat) : tx (tok ++ [c]) = tx tok ++ signs c := (tx_app tok [c]).symm
theorem drop_head {l : List Nat} {p c : Nat} {r : List Nat} (h : l.drop p = c :: r) : l[p]? = some c ∧ l.drop (p + 1) = r := by
  have h1 : (l.drop p)[0]? = some c := by rw [h]; rfl
  rw [List.getElem?_drop] at h1
  refine ⟨h1, ?_⟩
  rw [show p + 1 = p + 1 from rfl, ← List.drop_drop, h]; rfl
theorem drop_nil {l : List Nat} {p : Nat} (h : l.drop p = []) : l[p]? = none := by
  rw [List.getElem?_eq_none_iff]; exact List.drop_eq_nil_iff.mp h

theorem loopG (W : W39 Z) (hD : 3 ≤ D) {text white : Str} {k : CloT} (hk : RdF Z text k) {target : Expr} {body : List Stmt} {stop : Nat → Bool}
    (hA : ∀ tok o x σ, XA Z D κ (locG tok o) σ target (.str x) (locG tok (some (.str x))) σ)
    (hW : ∀ tok c p L, stop c = true → XSs Z D κ (locG tok (some (.str (signs c)))) (stL k text white p L ++ [itM]) body (.ret (.str (tx tok))) (locG tok (some (.str (signs c)))) (stL k text white p L ++ [itM]))
    (hB : ∀ tok p L, stop 92 = false → tok.length ≤ 100000 → XSs Z D κ (locG tok (some (.str (signs 92)))) (stL k text white p L ++ [itM]) body .next (locK (tx tok ++ chAt text p) (some (.str (chAt text p)))) (stL k text white (p + 1) (L + nlI (chAt text p)) ++ [itM]))
    (hC : ∀ tok c p L, stop c = false → (c == 92) = false → tok.length ≤ 100000 → XSs Z D κ (locG tok (some (.str (signs c)))) (stL k text white p L ++ [itM]) body .next (locK (tx tok ++ signs c) (some (.str (signs c)))) (stL k text white p L ++ [itM])) :
    ∀ (rest tok : List Nat) (p : Nat) (L : Int) (o : Option SV), (sg text).drop p = rest → tok.length + rest.length ≤ 100000 →
      ∃ n f o' it', LoopF Z D κ target body (.obj 7) n (locG tok o) (stL k text white p L ++ [itM]) f (locG (lexG stop rest tok p L).1 o') (stL k text white (lexG stop rest tok p L).2.1 (lexG stop rest tok p L).2.2 ++ [it']) ∧ Ended (lexG stop rest tok p L).1 f it' := by
  have one : ∀ (tok : List Nat) (p : Nat) (L : Int) (o : Option SV) (c : Nat), (sg text)[p]? = some c → stop c = true → ∃ n f o' it', LoopF Z D κ target body (.obj 7) n (locG tok o) (stL k text white p L ++ [itM]) f (locG tok o') (stL k text white (p + 1) (L + nlN c) ++ [it']) ∧ Ended tok f it' := fun tok p L o c h hs =>
    ⟨0, _, _, _, .ret (nxt_some W hD hk h) (hA tok o _ _).h (hW tok c _ _ hs).h, .inl ⟨rfl, rfl⟩⟩
  have stopD : ∀ (tok : List Nat) (p : Nat) (L : Int) (o : Option SV), (sg text)[p]? = none → ∃ n f o' it', LoopF Z D κ target body (.obj 7) n (locG tok o) (stL k text white p L ++ [itM]) f (locG tok o') (stL k text white (p + 1) L ++ [it']) ∧ Ended tok f it' := fun tok p L o h =>
    ⟨0, _, _, _, .stop (nxt_none W hD hk h), .inr ⟨rfl, rfl⟩⟩
  intro rest tok p L
  induction rest, tok, p, L using lexG.induct (stop := stop) with
  | case1 tok p L =>
    intro o h hb
    unfold lexG
    exact stopD tok p L o (drop_nil h)
  | case2 c tok p L hs =>
    intro o h hb
    unfold lexG
    rw [if_pos hs]
    exact one tok p L o c (drop_head h).1 hs
  | case3 c tok p L hs h92 =>
    intro o h hb
    unfold lexG
    rw [if_neg hs, if_pos h92]
    obtain rfl : c = 92 := by simpa using h92
    obtain ⟨g1, g2⟩ := drop_head h
    have g3 := drop_nil g2
    have b := hB tok (p + 1) (L + nlN 92) (by simpa using hs) (by simp at hb; (first | lia | omega))
    rw [chAt_none g3, nlI_empty, Int.add_zero] at b
    have e : tx tok ++ Str.ofString "" = tx tok := sg_inj (by rw [sg_app]; simp [show sg (Str.ofString "") = [] from rfl])
    rw [e] at b
    have g4 : (sg text)[p + 1 + 1]? = none := by
      rw [List.getElem?_eq_none_iff] at g3 ⊢; (first | lia | omega)
    obtain ⟨n, f, o', it', l, en⟩ := stopD tok (p + 1 + 1) (L + nlN 92) (some (.str (Str.ofString ""))) g4
    exact ⟨n + 1, f, o', it', .turn (nxt_some W hD hk g1) (hA tok o _ _).h b.h (.inl rfl) l, en⟩
  | case4 c tok p L hs h92 =>
    intro o h hb
    unfold lexG
    rw [if_neg hs, if_neg h92]
    obtain ⟨g1, g2⟩ := drop_head h
    have g3 := drop_nil g2
    have b := hC tok c (p + 1) (L + nlN c) (by simpa using hs) (by simpa using h92) (by simp at hb; (first | lia | omega))
    rw [← tx_snoc] at b
    obtain ⟨n, f, o', it', l, en⟩ := stopD (tok ++ [c]) (p + 1) (L + nlN c) (some (.str (signs c))) g3
    exact ⟨n + 1, f, o', it', .turn (nxt_some W hD hk g1) (hA tok o _ _).h b.h (.inl rfl) l, en⟩
  | case5 c d r tok p L hs =>
    intro o h hb
    unfold lexG
    rw [if_pos hs]
    exact one tok p L o c (drop_head h).1 hs
  | case6 c d r tok p L hs h92 ih =>
    intro o h hb
    unfold lexG
    rw [if_neg hs, if_pos h92]
    obtain rfl : c = 92 := by simpa using h92
    obtain ⟨g1, g2⟩ := drop_head h
    obtain ⟨g3, g4⟩ := drop_head g2
    have b := hB tok (p + 1) (L + nlN 92) (by simpa using hs) (by simp at hb; (first | lia | omega))
    rw [chAt_some g3, ← tx_snoc] at b
    obtain ⟨n, f, o', it', l, en⟩ := ih (some (.str (signs d))) g4 (by simp at hb ⊢; (first | lia | omega))
    exact ⟨n + 1, f, o', it', .turn (nxt_some W hD hk g1) (hA tok o _ _).h b.h (.inl rfl) l, en⟩
  | case7 c d r tok p L hs h92 ih =>
    intro o h hb
    unfold lexG
    rw [if_neg hs, if_neg h92]
    obtain ⟨g1, g2⟩ := drop_head h
    have b := hC tok c (p + 1) (L + nlN c) (by simpa using hs) (by simpa using h92) (by simp at hb; (first | lia | omega))
    rw [← tx_snoc] at b
    obtain ⟨n, f, o', it', l, en⟩ := ih (some (.str (signs c))) g2 (by simp at hb ⊢; (first | lia | omega))
    exact ⟨n + 1, f, o', it', .turn (nxt_some W hD hk g1) (hA tok o _ _).h b.h (.inl rfl) l, en⟩
end
section
variable {Z : Zt} {D : Nat} {σ σ' σ₂ : List SObj} {κ : Ctx} {loc loc' loc₁ : Loc}

noncomputable def wsB (white : Str) (c : Nat) : Bool := !(Builtin.Str.occurrences white (signs c) 0 white.length 1).isEmpty
noncomputable def tokB (ws : Nat → Bool) (p : Nat) (L : Int) : List Nat → List Nat × Nat × Int
  | [] => lexG ws [] [] (p + 1) L
  | d :: r' => lexG ws r' [d] (p + 1) (L + nlN d)
noncomputable def tokN (ws : Nat → Bool) (c : Nat) (r : List Nat) (p : Nat) (L : Int) : List Nat × Nat × Int :=
  if c == 34 then lexG (· == 34) r [] p L else if c == 92 then tokB ws p L r else lexG ws r [c] p L
noncomputable def tokF (ws : Nat → Bool) : List Nat → Nat → Int → List Nat × Nat × Int
  | [], p, L => ([], p + 1, L)
  | c :: r, p, L => if ws c then tokF ws r (p + 1) (L + nlN c) else tokN ws c r (p + 1) (L + nlN c)

theorem XSs.one {st : Stmt} {f : AF} (h : XS Z D κ loc σ st f loc' σ') : XSs Z D κ loc σ [st] f loc' σ' := by
  by_cases q : f = .next
  · subst q; exact .cons h .nil
  · exact .stop h q
theorem XSs.then' {st : Stmt} {rest : List Stmt} {f : AF} {r : SV} (h : XS Z D κ loc σ st f loc₁ σ₂) (hf : f = .ret r ∨ (f = .next ∧ XSs Z D κ loc₁ σ₂ rest (.ret r) loc₁ σ₂)) : XSs Z D κ loc σ (st :: rest) (.ret r) loc₁ σ₂ := by
  rcases hf with rfl | ⟨rfl, h2⟩
  · exact .stop h (by intro q; cases q)
  · exact .cons h h2
theorem sign_eq (c d : Nat) : (signs c == (⟨#[d]⟩ : Str)) = (c == d) := by
  rw [Bool.eq_iff_iff, beq_iff_eq, beq_iff_eq]
  constructor
  · intro h
    have := congrArg (fun x : Str => x.cps.toList) h
    simpa [signs] using this
  · rintro rfl; rfl

theorem loopO (W : W39 Z) (hD : 3 ≤ D) {text white : Str} {k : CloT} (hk : RdF Z text k) {target : Expr} {body : List Stmt} {ws : Nat → Bool}
    (hA : ∀ tok o x σ, XA Z D κ (locG tok o) σ target (.str x) (locG tok (some (.str x))) σ)
    (hW : ∀ c p L, ws c = true → XSs Z D κ (locG [] (some (.str (signs c)))) (stL k text white p L ++ [itM]) body .cont (locG [] (some (.str (signs c)))) (stL k text white p L ++ [itM]))
    (hN : ∀ c r p L, ws c = false → (sg text).drop p = r → r.length + 1 ≤ 100000 → ∃ f o' it', XSs Z D κ (locG [] (some (.str (signs c)))) (stL k text white p L ++ [itM]) body f (locG (tokN ws c r p L).1 o') (stL k text white (tokN ws c r p L).2.1 (tokN ws c r p L).2.2 ++ [it']) ∧ Ended (tokN ws c r p L).1 f it') :
    ∀ (rest : List Nat) (p : Nat) (L : Int) (o : Option SV), (sg text).drop p = rest → rest.length ≤ 100000 →
      ∃ n f o' it', LoopF Z D κ target body (.obj 7) n (locG [] o) (stL k text white p L ++ [itM]) f (locG (tokF ws rest p L).1 o') (stL k text white (tokF ws rest p L).2.1 (tokF ws rest p L).2.2 ++ [it']) ∧ Ended (tokF ws rest p L).1 f it'
  | [], p, L, o, h, _ => ⟨0, _, _, _, .stop (nxt_none W hD hk (drop_nil h)), .inr ⟨rfl, rfl⟩⟩
  | c :: r, p, L, o, h, hb => by
    obtain ⟨g1, g2⟩ := drop_head h
    unfold tokF
    cases hw : ws c with
    | true =>
      rw [if_pos rfl]
      obtain ⟨n, f, o', it', l, en⟩ := loopO W hD hk hA hW hN r (p + 1) (L + nlN c) (some (.str (signs c))) g2 (by simp at hb; (first | lia | omega))
      exact ⟨n + 1, f, o', it', .turn (nxt_some W hD hk g1) (hA [] o _ _).h (hW c _ _ hw).h (.inr rfl) l, en⟩
    | false =>
      rw [if_neg (by decide)]
      obtain ⟨f, o', it', b, en⟩ := hN c r (p + 1) (L + nlN c) hw g2 (by simp at hb; (first | lia | omega))
      rcases id en with ⟨rfl, rfl⟩ | ⟨rfl, rfl⟩
      · exact ⟨0, _, _, _, .ret (nxt_some W hD hk g1) (hA [] o _ _).h b.h, en⟩
      · exact ⟨1, _, _, _, .turn (nxt_some W hD hk g1) (hA [] o _ _).h b.h (.inl rfl) (.stop (Nxt.callEnded rfl)), en⟩

/-- a def's contract, of what it leaves only so much is known -/
theorem CallC.defX {P : List SObj → Prop} (W : W39 Z) {a : Addr} {fd : FuncData} {body : List Stmt} {names : List Str} {rs : List SV} {f : AF} {ns : List (Str × NameKind)} (F : IsFn Z a fd body) (hbind : ∀ vs : List Value, vs.length = rs.length → bindArgs fd ⟨vs, []⟩ = pure (names.zip vs)) (hnl : names.length = rs.length)
    (hns : fd.scope.names = ns) (hcell : ∀ x ∈ ns, x.2 ≠ .cell) (hloc : ∀ n ∈ names, ns.lookup n = some .local) (hnd : names.Nodup) (hl : names.zip rs = loc) (h : ∀ κ, Cx κ ns [] → ∃ loc' σ', XSs Z D κ loc σ body f loc' σ' ∧ P σ') : ∃ σ', CallC Z (D + 1) (.fix (.ref a)) rs σ (retOf f) σ' ∧ P σ' := by
  subst hns hl
  obtain ⟨loc', σ', h, p⟩ := h ⟨fd.qualname, fd.scope, fd.code, []⟩ ⟨rfl, rfl⟩
  exact ⟨σ', .fn W.ok F hbind hnl hcell hloc hnd h.h, p⟩

theorem forG (W : W39 Z) (hD : 3 ≤ D) {text white : Str} {k : CloT} (hk : RdF Z text k) {target iter : Expr} {pos : Pos} {body : List Stmt} {stop : Nat → Bool}
    (hI : ∀ tok o σ, XE Z D κ (locG tok o) σ iter (.obj 7) σ)
    (hA : ∀ tok o x σ, XA Z D κ (locG tok o) σ target (.str x) (locG tok (some (.str x))) σ)
    (hW : ∀ tok c p L, stop c = true → XSs Z D κ (locG tok (some (.str (signs c)))) (stL k text white p L ++ [itM]) body (.ret (.str (tx tok))) (locG tok (some (.str (signs c)))) (stL k text white p L ++ [itM]))
    (hB : ∀ tok p L, stop 92 = false → tok.length ≤ 100000 → XSs Z D κ (locG tok (some (.str (signs 92)))) (stL k text white p L ++ [itM]) body .next (locK (tx tok ++ chAt text p) (some (.str (chAt text p)))) (stL k text white (p + 1) (L + nlI (chAt text p)) ++ [itM]))
    (hC : ∀ tok c p L, stop c = false → (c == 92) = false → tok.length ≤ 100000 → XSs Z D κ (locG tok (some (.str (signs c)))) (stL k text white p L ++ [itM]) body .next (locK (tx tok ++ signs c) (some (.str (signs c)))) (stL k text white p L ++ [itM]))
    (hf : ∀ it v, letOwnedTupleGo target it v = pure ()) (hs : ∀ env x, foldedSetIterable iter env x = pure x) {rest tok : List Nat} {p : Nat} {L : Int} {o : Option SV} (hd : (sg text).drop p = rest) (hb : tok.length + rest.length ≤ 100000) :
    ∃ f o' it', XS Z D κ (locG tok o) (stL k text white p L ++ [itM]) (.For target iter body [] pos) f (locG (lexG stop rest tok p L).1 o') (stL k text white (lexG stop rest tok p L).2.1 (lexG stop rest tok p L).2.2 ++ [it']) ∧ Ended (lexG stop rest tok p L).1 f it' := by
  obtain ⟨n, f, o', it', l, en⟩ := loopG W hD hk hA hW hB hC rest tok p L o hd hb
  exact ⟨f, o', it', .for (hI tok o _) ⟨Itr.call (o := itM) rfl (.inl ⟨_, rfl⟩)⟩ l hf hs, en⟩

theorem forO (W : W39 Z) (hD : 3 ≤ D) {text white : Str} {k : CloT} (hk : RdF Z text k) {target iter : Expr} {pos : Pos} {body rest : List Stmt} {ws : Nat → Bool}
    (hI : ∀ tok o σ, XE Z D κ (locG tok o) σ iter (.obj 7) σ)
    (hA : ∀ tok o x σ, XA Z D κ (locG tok o) σ target (.str x) (locG tok (some (.str x))) σ)
    (hW : ∀ c p L, ws c = true → XSs Z D κ (locG [] (some (.str (signs c)))) (stL k text white p L ++ [itM]) body .cont (locG [] (some (.str (signs c)))) (stL k text white p L ++ [itM]))
    (hN : ∀ c r p L, ws c = false → (sg text).drop p = r → r.length + 1 ≤ 100000 → ∃ f o' it', XSs Z D κ (locG [] (some (.str (signs c)))) (stL k text white p L ++ [itM]) body f (locG (tokN ws c r p L).1 o') (stL k text white (tokN ws c r p L).2.1 (tokN ws c r p L).2.2 ++ [it']) ∧ Ended (tokN ws c r p L).1 f it')
    (hr : ∀ tok o σ, XSs Z D κ (locG tok o) σ rest (.ret (.str (tx tok))) (locG tok o) σ)
    (hf : ∀ it v, letOwnedTupleGo target it v = pure ()) (hs : ∀ env x, foldedSetIterable iter env x = pure x) {p : Nat} {L : Int} {R : List Nat × Nat × Int} (hR : tokF ws ((sg text).drop p) p L = R) (ht : text.length ≤ 99999) :
    ∃ loc' σ', XSs Z D κ (locG [] none) (stL k text white p L ++ [itM]) (.For target iter body [] pos :: rest) (.ret (.str (tx R.1))) loc' σ' ∧ ∃ it, σ' = stL k text white R.2.1 R.2.2 ++ [it] := by
  obtain ⟨n, f, o', it', l, en⟩ := loopO W hD hk hA hW hN _ p L none rfl (by rw [List.length_drop, sg_len]; (first | lia | omega))
  rw [hR] at l en
  refine ⟨_, _, XSs.then' (.for (hI [] none _) ⟨Itr.call (o := itM) rfl (.inl ⟨_, rfl⟩)⟩ l hf hs) ?_, it', rfl⟩
  rcases en with ⟨rfl, rfl⟩ | ⟨rfl, rfl⟩
  · exact .inl rfl
  · exact .inr ⟨rfl, hr _ _ _⟩

section
variable {k : CloT} {text white : Str} {R : List Nat × Nat × Int} {st st2 : Stmt} {rest b o : List Stmt} {t : Expr} {pos : Pos} {σ₁ : List SObj}
noncomputable def EndsS (Z : Zt) (D : Nat) (κ : Ctx) (k : CloT) (text white : Str) (R : List Nat × Nat × Int) (loc : Loc) (σ : List SObj) (st : Stmt) : Prop := ∃ f o' it', XS Z D κ loc σ st f (locG R.1 o') (stL k text white R.2.1 R.2.2 ++ [it']) ∧ Ended R.1 f it'
noncomputable def EndsSs (Z : Zt) (D : Nat) (κ : Ctx) (k : CloT) (text white : Str) (R : List Nat × Nat × Int) (loc : Loc) (σ : List SObj) (sts : List Stmt) : Prop := ∃ f o' it', XSs Z D κ loc σ sts f (locG R.1 o') (stL k text white R.2.1 R.2.2 ++ [it']) ∧ Ended R.1 f it'
theorem EndsSs.one (h : EndsS Z D κ k text white R loc σ st) : EndsSs Z D κ k text white R loc σ [st] := by
  obtain ⟨f, o', it', h, e⟩ := h
  exact ⟨f, o', it', .one h, e⟩
theorem EndsSs.cons (h1 : XS Z D κ loc σ st .next loc₁ σ₁) (h : EndsSs Z D κ k text white R loc₁ σ₁ rest) : EndsSs Z D κ k text white R loc σ (st :: rest) := by
  obtain ⟨f, o', it', h, e⟩ := h
  exact ⟨f, o', it', .cons h1 h, e⟩
theorem EndsS.ifT (h1 : XT Z D κ loc σ t true σ) (h : EndsSs Z D κ k text white R loc σ b) : EndsS Z D κ k text white R loc σ (.If t b o pos) := by
  obtain ⟨f, o', it', h, e⟩ := h
  exact ⟨f, o', it', .ifT h1 h, e⟩
theorem EndsS.ifF (h1 : XT Z D κ loc σ t false σ) (h : EndsSs Z D κ k text white R loc σ o) : EndsS Z D κ k text white R loc σ (.If t b o pos) := by
  obtain ⟨f, o', it', h, e⟩ := h
  exact ⟨f, o', it', .ifF h1 h, e⟩
end

theorem chAt_len (text : Str) (p : Nat) : (chAt text p).length ≤ 1 := by
  unfold chAt
  split
  · exact Nat.le_refl _
  · exact Nat.zero_le _
theorem elseE {k : CloT} {text white : Str} {st1 st2 st3 : Stmt} {ws : Nat → Bool} {c p : Nat} {r : List Nat} {L : Int} (hd : (sg text).drop p = r) (hl : r.length + 1 ≤ 100000)
    (hB : c = 92 → XS Z D κ (locG [] (some (.str (signs c)))) (stL k text white p L ++ [itM]) st1 .next (locK (tx []) (some (.str (chAt text p)))) (stL k text white (p + 1) (L + nlI (chAt text p)) ++ [itM]))
    (hC : (c == 92) = false → XS Z D κ (locG [] (some (.str (signs c)))) (stL k text white p L ++ [itM]) st1 .next (locK (tx []) (some (.str (signs c)))) (stL k text white p L ++ [itM]))
    (hB2 : ∀ (x : Str) p L, x.length ≤ 1 → XS Z D κ (locK (tx []) (some (.str x))) (stL k text white p L ++ [itM]) st2 .next (locK (tx [] ++ x) (some (.str x))) (stL k text white p L ++ [itM]))
    (h3 : ∀ (r tok : List Nat) (p : Nat) (L : Int) (o : Option SV), (sg text).drop p = r → tok.length + r.length ≤ 100000 → EndsS Z D κ k text white (lexG ws r tok p L) (locG tok o) (stL k text white p L ++ [itM]) st3) :
    EndsSs Z D κ k text white (if c == 92 then tokB ws p L r else lexG ws r [c] p L) (locG [] (some (.str (signs c)))) (stL k text white p L ++ [itM]) [st1, st2, st3] := by
  cases h92 : (c == 92) with
  | true =>
    rw [if_pos rfl]
    have b1 := hB (by simpa using h92)
    have b2 := hB2 (chAt text p) (p + 1) (L + nlI (chAt text p)) (chAt_len _ _)
    cases r with
    | nil =>
      have g := drop_nil hd
      rw [chAt_none g, nlI_empty, Int.add_zero] at b1 b2
      have e : tx [] ++ Str.ofString "" = tx [] := rfl
      rw [e] at b2
      exact .cons b1 (.cons b2 (.one (h3 [] [] (p + 1) L _ (by rw [List.drop_eq_nil_iff] at hd ⊢; (first | lia | omega)) (by simp))))
    | cons d r' =>
      obtain ⟨g1, g2⟩ := drop_head hd
      rw [chAt_some g1] at b1 b2
      have e : tx [] ++ signs d = tx [d] := (tx_snoc [] d).symm
      rw [e] at b2
      exact .cons b1 (.cons b2 (.one (h3 r' [d] (p + 1) _ _ g2 (by simp at hl ⊢; (first | lia | omega)))))
  | false =>
    rw [if_neg (by decide)]
    have b1 := hC h92
    have b2 := hB2 (signs c) p L (Nat.le_refl _)
    have e : tx [] ++ signs c = tx [c] := (tx_snoc [] c).symm
    rw [e] at b2
    exact .cons b1 (.cons b2 (.one (h3 r [c] p L _ hd (by simp; (first | lia | omega)))))

theorem c_get_token (W : W39 Z) (hD : 5 ≤ D) {text white : Str} {k : CloT} (hk : RdF Z text k) (ht : text.length ≤ 99999) {p : Nat} {L : Int} :
    CallC Z D (.fix (.ref 149)) [.inst 159 5] (stL k text white p L) (.str (tx (tokF (wsB white) ((sg text).drop p) p L).1)) (stL k text white (tokF (wsB white) ((sg text).drop p) p L).2.1 (tokF (wsB white) ((sg text).drop p) p L).2.2) := by
  obtain ⟨D, rfl⟩ : ∃ k, D = k + 1 := ⟨D - 1, by (first | lia | omega)⟩
  have F := isFn_of W (a := 149) rfl rfl rfl rfl rfl rfl rfl rfl rfl rfl rfl
  generalize hR : tokF (wsB white) ((sg text).drop p) p L = R
  have key : ∃ σ', CallC Z (D + 1) (.fix (.ref 149)) [.inst 159 5] (stL k text white p L) (retOf (.ret (.str (tx R.1)))) σ' ∧ ∃ it, σ' = stL k text white R.2.1 R.2.2 ++ [it] := by
    refine CallC.defX (names := ["self"]) (loc := [("self", .inst 159 5)]) W F (fun vs h => by obtain ⟨a, rfl⟩ := list1 h; rfl) rfl rfl (by decide +kernel) (by decide +kernel) (by decide +kernel) rfl fun κ C => ?_
    clear F
    dsimp only at C
    have hrc : ∀ p L, CallC Z D (.fix (.ref 142)) [.inst 159 5] (stL k text white p L ++ [itM]) (.str (chAt text p)) (stL k text white (p + 1) (L + nlI (chAt text p)) ++ [itM]) := fun p L => stL_ext [itM] (c_read_char W (by (first | lia | omega)) hk) (.fix _) (by simp; exact .inst (by decide)) (.str _)
    apply consE
    · unfold stL; walk_at "my s"
    apply consE
    · walk_at "my s"
    apply consE
    · walk_at "my s"
    have hI : ∀ (ps : Pos) tok o σ, XE Z D κ (locG tok o) σ (.Name "fiter" ps) (.obj 7) σ := fun ps tok o σ => XE.var C rfl rfl rfl
    have hA : ∀ (ps : Pos) tok o x σ, XA Z D κ (locG tok o) σ (.Name "ch" ps) (.str x) (locG tok (some (.str x))) σ := fun ps tok o x σ => by
      cases o with
      | none => exact XA.var C rfl (.there rfl (.there rfl (.there rfl .new)))
      | some v => exact XA.var C rfl (.there rfl (.there rfl (.there rfl .here)))
    refine forO W (by (first | lia | omega)) hk (ws := wsB white) (fun tok o σ => hI _ tok o σ) (fun tok o x σ => hA _ tok o x σ) (fun c p L hw => ?_) (fun c r p L hw hd hl => ?_) (fun tok o σ => ?_) (fun _ _ => rfl) (fun _ _ => rfl) hR ht
    · have hw2 : (!(Builtin.Str.occurrences white (signs c) 0 white.length 1).isEmpty) = true := hw
      unfold stL
      walk_at "my ss"
    · show EndsSs Z D κ k text white (tokN (wsB white) c r p L) _ _ _
      have hw2 : (!(Builtin.Str.occurrences white (signs c) 0 white.length 1).isEmpty) = false := hw
      have q34 : (signs c == Str.ofString "\"") = (c == 34) := sign_eq c 34
      have q92 : (signs c == Str.ofString "\\") = (c == 92) := sign_eq c 92
      have s92 : (signs 92 == Str.ofString "\\") = true := sign_eq 92 92
      have s9234 : (signs 92 == Str.ofString "\"") = false := sign_eq 92 34
      have lt1 : ∀ (tok : List Nat) (c : Nat), tok.length ≤ 100000 → (tx tok).length + (signs c).length ≤ sizeLine := fun tok c h => by
        rw [tx_len]; exact Nat.le_trans (Nat.add_le_add_right h _) (by show 100000 + 1 ≤ sizeLine; decide)
      have lt2 : ∀ (tok : List Nat) (p : Nat), tok.length ≤ 100000 → (tx tok).length + (chAt text p).length ≤ sizeLine := fun tok p h => by
        rw [tx_len]
        have : (chAt text p).length ≤ 1 := by
          unfold chAt
          split
          · exact Nat.le_refl _
          · exact Nat.zero_le _
        exact Nat.le_trans (Nat.add_le_add h this) (by decide)
      refine EndsSs.cons (loc₁ := locG [] (some (.str (signs c)))) (σ₁ := stL k text white p L ++ [itM]) (by unfold stL; walk_at "my s") (EndsSs.one ?_)
      unfold tokN
      cases h34 : (c == 34) with
      | true =>
        rw [if_pos rfl]
        rw [h34] at q34
        refine EndsS.ifT (by walk_at "my t") (EndsSs.one ?_)
        refine forG W (by (first | lia | omega)) hk (stop := (· == 34)) (fun tok o σ => hI _ tok o σ) (fun tok o x σ => hA _ tok o x σ) (fun tok c p L h => ?_) (fun tok p L h hb => ?_) (fun tok c p L h h2 hb => ?_) (fun _ _ => rfl) (fun _ _ => rfl) hd (by simp; (first | lia | omega))
        · have g1 : (signs c == Str.ofString "\"") = true := (sign_eq c 34).trans h
          walk_at "my ss"
        · have g2 := lt2 tok p hb
          have g3 := hrc p L
          walk_at "my ss"
        · have g1 : (signs c == Str.ofString "\"") = false := (sign_eq c 34).trans h
          have g2 : (signs c == Str.ofString "\\") = false := (sign_eq c 92).trans h2
          have g3 := lt1 tok c hb
          walk_at "my ss"
      | false =>
        rw [if_neg (by decide)]
        rw [h34] at q34
        refine EndsS.ifF (by walk_at "my t") ?_
        refine elseE hd hl (fun e => ?_) (fun e => ?_) (fun x p L hx => ?_) (fun r tok p L o hd hl => ?_)
        · subst e
          have g3 := hrc p L
          walk_at "my s"
        · rw [e] at q92
          walk_at "my s"
        · have g4 : (tx []).length + x.length ≤ sizeLine := Nat.le_trans (Nat.add_le_add (Nat.le_refl _) hx) (by decide)
          walk_at "my s"
        · refine forG W (by (first | lia | omega)) hk (stop := wsB white) (fun tok o σ => hI _ tok o σ) (fun tok o x σ => hA _ tok o x σ) (fun tok c p L h => ?_) (fun tok p L h hb => ?_) (fun tok c p L h h2 hb => ?_) (fun _ _ => rfl) (fun _ _ => rfl) hd hl
          · have g1 : (!(Builtin.Str.occurrences white (signs c) 0 white.length 1).isEmpty) = true := h
            clear hw2
            walk_at "my ss"
          · have g1 : (!(Builtin.Str.occurrences white (signs 92) 0 white.length 1).isEmpty) = false := h
            have g2 := lt2 tok p hb
            have g3 := hrc p L
            walk_at "my ss"
          · have g1 : (!(Builtin.Str.occurrences white (signs c) 0 white.length 1).isEmpty) = false := h
            have g2 : (signs c == Str.ofString "\\") = false := (sign_eq c 92).trans h2
            have g3 := lt1 tok c hb
            walk_at "my ss"
    · walk_at "my ss"
  obtain ⟨σ', key, it, rfl⟩ := key
  exact key.drop (by show 7 ≤ 7; decide) (fun _ => stL_lt) (.str _)
end
section
variable {Z : Zt} {D : Nat} {σ σ' σ₂ : List SObj} {κ : Ctx} {loc loc' loc₁ : Loc}

/-- the lexer's places, its words -/
noncomputable def pl (ws : Nat → Bool) (t : List Nat) (q : Nat × Int) : Nat → Nat × Int
  | 0 => q
  | k + 1 => (tokF ws (t.drop (pl ws t q k).1) (pl ws t q k).1 (pl ws t q k).2).2
noncomputable def tk (ws : Nat → Bool) (t : List Nat) (q : Nat × Int) (k : Nat) : Str := tx (tokF ws (t.drop (pl ws t q k).1) (pl ws t q k).1 (pl ws t q k).2).1
noncomputable def sv (ws : List Str) : List SV := ws.map SV.str
theorem sv_lt {ws : List Str} : ∀ x ∈ sv ws, SV.Lt 0 x := fun x h => by
  unfold sv at h
  obtain ⟨i, _, rfl⟩ := List.mem_map.mp h
  exact .str i
theorem sv_snoc (ws : List Str) (w : Str) : sv (ws ++ [w]) = sv ws ++ [.str w] := by simp [sv]

noncomputable abbrev wsT (white text : Str) (q : Nat × Int) (k : Nat) : Str := tk (wsB white) (sg text) q k
noncomputable abbrev plT (white text : Str) (q : Nat × Int) (k : Nat) : Nat × Int := pl (wsB white) (sg text) q k
noncomputable abbrev stP (k : CloT) (text white : Str) (q : Nat × Int) : List SObj := stL k text white q.1 q.2

theorem c_get (W : W39 Z) (hD : 5 ≤ D) {text white : Str} {k : CloT} (hk : RdF Z text k) (ht : text.length ≤ 99999) (q : Nat × Int) (i : Nat) (τ : List SObj) :
    CallC Z D (.fix (.ref 149)) [.inst 159 5] (stP k text white (plT white text q i) ++ τ) (.str (wsT white text q i)) (stP k text white (plT white text q (i + 1)) ++ τ) :=
  stL_ext τ (c_get_token W hD hk ht) (.fix _) (by simp; exact .inst (by decide)) (.str _)

theorem c_words (W : W39 Z) (hD : 6 ≤ D) {text : Str} (ht : text.length ≤ 99999) {n : Nat} (hn : n ≤ 99999) (h : ∀ k, k < n → wsT "." text (0, 1) k ≠ Str.ofString "") (he : wsT "." text (0, 1) n = Str.ofString "") :
    CallC Z D (.fix (.ref 184)) [.str text] [] (.obj 0) [.list (sv ((List.range n).map (wsT "." text (0, 1))))] := by
  obtain ⟨D, rfl⟩ : ∃ k, D = k + 1 := ⟨D - 1, by (first | lia | omega)⟩
  have F := isFn_of W (a := 184) rfl rfl rfl rfl rfl rfl rfl rfl rfl rfl rfl
  obtain ⟨k, hk, hr⟩ := c_reader W (D := D) (text := text) (white := ".") (by (first | lia | omega)) (by (first | lia | omega))
  have hg := fun i τ => c_get W (D := D) (by (first | lia | omega)) hk (white := ".") ht (0, 1) i τ
  have hg0 := hg 0 [.list []]
  have key : CallC Z (D + 1) (.fix (.ref 184)) [.str text] [] (retOf (.ret (.obj 7))) (stP k text "." (plT "." text (0, 1) (n + 1)) ++ [.list (sv ((List.range n).map (wsT "." text (0, 1))))]) := by
    refine CallC.def (f := .ret (.obj 7)) (names := ["text"]) (loc := [("text", .str text)]) W F (fun vs h => by obtain ⟨a, rfl⟩ := list1 h; rfl) rfl rfl (by decide +kernel) (by decide +kernel) (by decide +kernel) rfl fun κ C => ?_
    clear F
    dsimp only at C
    apply Exists.intro
    apply XSs.cons
    · walk_at "my s"
    apply XSs.cons
    · walk_at "my s"
    apply XSs.cons
    · apply XS.assign
      · apply XE.method
        · assumption
        · walk_at "my e"
        · walk_at "my M"
        · walk_at "my l"
        · walk_at "my keep"
        · exact XK.of hg0
        · exact fun _ => rfl
        · exact fun _ => ⟨_, rfl⟩
      · walk_at "my a"
      · exact fun _ => rfl
      · exact fun _ => rfl
      · exact fun _ => rfl
    apply XSs.cons
    · apply XS.while (n := n)
      refine loop_while (N := n) (fun i => [("text", .str text), ("lexer", .inst 159 5), ("words", .obj 7), ("word", .str (wsT "." text (0, 1) i))]) (fun i => stP k text "." (plT "." text (0, 1) (i + 1)) ++ [.list (sv ((List.range i).map (wsT "." text (0, 1))))]) ?_ (fun i hi => ?_) n 0 (by (first | lia | omega))
      · have t0 : (wsT "." text (0, 1) n != Str.ofString "") = false := by rw [he]; decide
        walk_at "my t"
      · have t0 : (wsT "." text (0, 1) i != Str.ofString "") = true := bne_iff_ne.mpr (h i hi)
        have g1 := hg (i + 1) [.list (sv ((List.range (i + 1)).map (wsT "." text (0, 1))))]
        have hl : (sv ((List.range i).map (wsT "." text (0, 1)))).length ≤ sizeLine := by unfold sv; rw [List.length_map, List.length_map, List.length_range]; exact Nat.le_trans (show i ≤ 99999 by (first | lia | omega)) (by decide)
        refine ⟨by walk_at "my t", [], ?_⟩
        rw [List.append_nil]
        have e1 : sv ((List.range (i + 1)).map (wsT "." text (0, 1))) = sv ((List.range i).map (wsT "." text (0, 1))) ++ [.str (wsT "." text (0, 1) i)] := by rw [List.range_succ, List.map_append]; exact sv_snoc _ _
        rw [e1] at g1 ⊢
        clear hg hg0
        apply XSs.cons
        · walk_at "my s"
        apply XSs.cons
        · apply XS.assign
          · apply XE.method
            · assumption
            · walk_at "my e"
            · walk_at "my M"
            · walk_at "my l"
            · walk_at "my keep"
            · exact XK.of g1
            · exact fun _ => rfl
            · exact fun _ => ⟨_, rfl⟩
          · walk_at "my a"
          · exact fun _ => rfl
          · exact fun _ => rfl
          · exact fun _ => rfl
        exact XSs.nil
    walk_at "my ss"
  exact key.pick1 rfl sv_lt
end
section
variable {Z : Zt} {D : Nat} {σ σ' σ₂ : List SObj} {κ : Ctx} {loc loc' loc₁ : Loc}

theorem c_units (W : W39 Z) (hD : 6 ≤ D) {text white : Str} {k : CloT} (hk : RdF Z text k) (ht : text.length ≤ 99999) {q : Nat × Int} {U : Nat → Int} {n : Nat} (hn : n ≤ 99999) (h : ∀ i, i < n → numB (wsT white text q i) (U i) = true ∧ wsT white text q i ≠ Str.ofString ".") (he : wsT white text q n = Str.ofString ".") :
    CallC Z D (.fix (.ref 191)) [.inst 159 5] (stP k text white q) (.obj 7) (stP k text white (plT white text q (n + 1)) ++ [.list (iv ((List.range n).map U))]) := by
  obtain ⟨D, rfl⟩ : ∃ k, D = k + 1 := ⟨D - 1, by (first | lia | omega)⟩
  have F := isFn_of W (a := 191) rfl rfl rfl rfl rfl rfl rfl rfl rfl rfl rfl
  have hg := fun i τ => c_get W (D := D) (by (first | lia | omega)) hk (white := white) ht q i τ
  have hg0 := hg 0 [.list []]
  refine CallC.def (f := .ret (.obj 7)) (names := ["lexer"]) (loc := [("lexer", .inst 159 5)]) W F (fun vs h => by obtain ⟨a, rfl⟩ := list1 h; rfl) rfl rfl (by decide +kernel) (by decide +kernel) (by decide +kernel) rfl fun κ C => ?_
  clear F
  dsimp only at C
  apply Exists.intro
  apply XSs.cons
  · walk_at "my s"
  apply XSs.cons
  · apply XS.assign
    · apply XE.method
      · assumption
      · walk_at "my e"
      · walk_at "my M"
      · walk_at "my l"
      · walk_at "my keep"
      · exact XK.of hg0
      · exact fun _ => rfl
      · exact fun _ => ⟨_, rfl⟩
    · walk_at "my a"
    · exact fun _ => rfl
    · exact fun _ => rfl
    · exact fun _ => rfl
  apply XSs.cons
  · apply XS.while (n := n)
    refine loop_while (N := n) (fun i => [("lexer", .inst 159 5), ("units", .obj 7), ("word", .str (wsT white text q i))]) (fun i => stP k text white (plT white text q (i + 1)) ++ [.list (iv ((List.range i).map U))]) ?_ (fun i hi => ?_) n 0 (by (first | lia | omega))
    · have t0 : (wsT white text q n != Str.ofString ".") = false := by rw [he]; decide
      walk_at "my t"
    · obtain ⟨h1, h2⟩ := h i hi
      have t0 : (wsT white text q i != Str.ofString ".") = true := bne_iff_ne.mpr h2
      have cn := c_num W (D := D) (σ := stP k text white (plT white text q (i + 1)) ++ [.list (iv ((List.range i).map U))]) (by (first | lia | omega)) h1
      have g1 := hg (i + 1) [.list (iv ((List.range (i + 1)).map U))]
      have hl : (iv ((List.range i).map U)).length ≤ sizeLine := by rw [iv_len, List.length_map, List.length_range]; exact Nat.le_trans (show i ≤ 99999 by (first | lia | omega)) (by decide)
      refine ⟨by walk_at "my t", [], ?_⟩
      rw [List.append_nil]
      have e1 : iv ((List.range (i + 1)).map U) = iv ((List.range i).map U) ++ [.int (U i)] := by rw [List.range_succ, List.map_append, iv_append]; rfl
      rw [e1] at g1 ⊢
      clear hg hg0
      apply XSs.cons
      · walk_at "my s"
      apply XSs.cons
      · apply XS.assign
        · apply XE.method
          · assumption
          · walk_at "my e"
          · walk_at "my M"
          · walk_at "my l"
          · walk_at "my keep"
          · exact XK.of g1
          · exact fun _ => rfl
          · exact fun _ => ⟨_, rfl⟩
        · walk_at "my a"
        · exact fun _ => rfl
        · exact fun _ => rfl
        · exact fun _ => rfl
      exact XSs.nil
  walk_at "my ss"
end
section
variable {Z : Zt} {D : Nat} {σ σ' σ₂ : List SObj} {κ : Ctx} {loc loc' loc₁ : Loc}

theorem XS.drop {st : Stmt} {f : AF} {τ : List SObj} (h : XS Z D κ loc σ st f loc' (σ ++ τ)) (hr : ∀ r, f = .ret r → SV.Lt σ.length r) (hL : ∀ x v, loc'.lookup x = some v → SV.Lt σ.length v) : XS Z D κ loc σ st f loc' σ :=
  ⟨h.h.drop (Nat.le_refl _) (fun h => h) hr hL⟩

theorem set_end2 (a b a' : SObj) : (σ ++ [a, b]).set σ.length a' = σ ++ [a', b] := by
  rw [List.set_append_right _ _ (Nat.le_refl _), Nat.sub_self]; rfl
theorem set_end2' (a b b' : SObj) : (σ ++ [a, b]).set (σ.length + 1) b' = σ ++ [a, b'] := by
  rw [List.set_append_right _ _ (by (first | lia | omega)), show σ.length + 1 - σ.length = 1 from by (first | lia | omega)]; rfl
theorem get_end2 (a b : SObj) : (σ ++ [a, b])[σ.length]? = some a ∧ (σ ++ [a, b])[σ.length + 1]? = some b := by
  constructor
  · rw [List.getElem?_append_right (Nat.le_refl _), Nat.sub_self]; rfl
  · rw [List.getElem?_append_right (by (first | lia | omega)), show σ.length + 1 - σ.length = 1 from by (first | lia | omega)]; rfl

noncomputable def escL (x : Str) : List Str := (sg x).map fun c => Str.ofString "\\" ++ signs c
/-- the comprehension over a word's signs -/
theorem esc_comp {x : Str} (ha : x.cps.all (· < 128) = true) (hx : x.length ≤ 1000) {iter : Expr} {p1 p2 p3 p4 p5 : Pos} {k1 : Nat} (h1 : XE Z D κ loc σ iter (.str x) σ)
    (hs : ∀ env y, foldedSetIterable iter env y = pure y) :
    XE Z D κ loc σ (.ListComp (.BinOp (.Constant (.str "\\") k1 p1) .Add (.Name "sign" p2) p3) [⟨.Name "sign" p4, iter, [], 0⟩] ⟨.function, [(".0", .local), ("sign", .local)], false, false, []⟩ p5) (.obj (σ.length + 1)) (σ ++ [.junk, .list (sv (escL x))]) := by
  have C' : Cx ⟨κ.name, ⟨.function, [(".0", .local), ("sign", .local)], false, false, []⟩, κ.cd, []⟩ [(".0", .local), ("sign", .local)] [] := ⟨rfl, rfl⟩
  have K : CompOk κ ⟨κ.name, ⟨.function, [(".0", .local), ("sign", .local)], false, false, []⟩, κ.cd, []⟩ ⟨.function, [(".0", .local), ("sign", .local)], false, false, []⟩ := by
    refine ⟨fun env ρ _ _ => rfl, by intro x hx; simp at hx, by decide +kernel, rfl, by decide +kernel, fun env _ => rfl, rfl, rfl⟩
  have hlen : (sg x).length = x.cps.size := by unfold sg; simp
  have step : ∀ (n k : Nat) (loc : Loc), k + n = x.cps.size → (loc = [] ∨ ∃ v, loc = ([(Str.ofString "sign", v)] : Loc)) →
      LoopC Z D ⟨κ.name, ⟨.function, [(".0", .local), ("sign", .local)], false, false, []⟩, κ.cd, []⟩ (.Name "sign" p4) (.BinOp (.Constant (.str "\\") k1 p1) .Add (.Name "sign" p2) p3) (.obj σ.length) (σ.length + 1) n loc (σ ++ [.strIt x k, .list (sv (((sg x).take k).map fun c => Str.ofString "\\" ++ signs c))]) (sv (((sg x).take k).map fun c => Str.ofString "\\" ++ signs c)) (σ ++ [.junk, .list (sv (escL x))]) (sv (escL x)) := by
    intro n
    induction n with
    | zero =>
      intro k loc hk _
      obtain rfl : k = x.cps.size := by (first | lia | omega)
      have e : ((sg x).take x.cps.size).map (fun c => Str.ofString "\\" ++ signs c) = escL x := by unfold escL; rw [List.take_of_length_le (by (first | lia | omega))]
      rw [e]
      have := Nxt.strEnd (Z := Z) (D := D) (σ := σ ++ [.strIt x x.cps.size, .list (sv (escL x))]) (get_end2 _ _).1 (by simp)
      rw [set_end2] at this
      exact .stop this
    | succ n ih =>
      intro k loc hk hl
      have hc : x.cps[k]? = some (x.cps[k]'(by (first | lia | omega))) := Array.getElem?_eq_getElem (by (first | lia | omega))
      have hc2 : (sg x)[k]? = some (x.cps[k]'(by (first | lia | omega))) := by unfold sg; rw [Array.getElem?_toList]; exact hc
      generalize x.cps[k]'(by (first | lia | omega)) = c at hc hc2
      have n1 := Nxt.str (Z := Z) (D := D) (σ := σ ++ [.strIt x k, .list (sv (((sg x).take k).map fun c => Str.ofString "\\" ++ signs c))]) (get_end2 _ _).1 hc
      rw [set_end2] at n1
      have a1 : ∀ σ, XA Z D ⟨κ.name, ⟨.function, [(".0", .local), ("sign", .local)], false, false, []⟩, κ.cd, []⟩ loc σ (.Name "sign" p4) (.str (signs c)) [("sign", .str (signs c))] σ := fun σ => by
        rcases hl with rfl | ⟨v, rfl⟩
        · exact XA.var C' rfl .new
        · exact XA.var C' rfl .here
      have e1 : ∀ σ, XE Z D ⟨κ.name, ⟨.function, [(".0", .local), ("sign", .local)], false, false, []⟩, κ.cd, []⟩ [("sign", .str (signs c))] σ (.BinOp (.Constant (.str "\\") k1 p1) .Add (.Name "sign" p2) p3) (.str (Str.ofString "\\" ++ signs c)) σ := fun σ =>
        XE.bin XE.str (XE.var C' rfl rfl rfl) (XB.adds (by show 1 + 1 ≤ sizeLine; decide))
      have l1 : (sv (((sg x).take k).map fun c => Str.ofString "\\" ++ signs c)).length ≤ sizeLine := by
        unfold sv; rw [List.length_map, List.length_map, List.length_take]
        have : x.cps.size ≤ 1000 := hx
        exact Nat.le_trans (show min k (sg x).length ≤ 1000 by (first | lia | omega)) (by decide)
      refine .turn n1 (a1 _).h (e1 _).h (get_end2 _ _).2 l1 ?_
      rw [set_end2']
      have e2 : sv (((sg x).take (k + 1)).map fun c => Str.ofString "\\" ++ signs c) = sv (((sg x).take k).map fun c => Str.ofString "\\" ++ signs c) ++ [.str (Str.ofString "\\" ++ signs c)] := by
        rw [List.take_add_one, hc2, List.map_append]; exact sv_snoc _ _
      rw [← e2]
      exact ih (k + 1) _ (by (first | lia | omega)) (.inr ⟨_, rfl⟩)
  have l0 := step x.cps.size 0 [] (by (first | lia | omega)) (.inl rfl)
  have e9 : (σ ++ [SObj.strIt x 0]).length = σ.length + 1 := by simp
  have e8 : σ ++ [SObj.strIt x 0] ++ [.list []] = σ ++ [.strIt x 0, .list []] := by simp
  refine ⟨?_⟩
  have := EvE.comp (Z := Z) (D := D) (n := x.cps.size) (elt := .BinOp (.Constant (.str "\\") k1 p1) .Add (.Name "sign" p2) p3) (target := .Name "sign" p4) (pos := p5) K h1.h (Itr.str ha) (Itr.strIt (by rw [e8]; exact (get_end2 _ _).1)) (by rw [e9, e8]; exact l0) (fun _ _ => rfl) hs
  rw [e9] at this
  exact this

/-- how a numeral is written -/
noncomputable def fmtW (m : Int) (w : Str) : Str :=
  if m == 0 then Str.ofString "\"" ++ w ++ Str.ofString " \"" else if m == 1 then strCut w none (some 1) ++ Str.ofString "_" ++ strCut w (some 1) none
  else if m == 2 then Txt.join (Str.ofString "") (escL w) else if m == 3 then Str.ofString "00" ++ w else w
structure WordOk (w : Str) : Prop where
  ascii : w.cps.all (· < 128) = true
  len : w.length ≤ 100
  join : JoinOk (Str.ofString "") (escL w) = true
  cut : (strCut w none (some 1)).length ≤ 100 ∧ (strCut w (some 1) none).length ≤ 100

noncomputable def locF (cell left : Int) (text : Str) (rest : Loc) : Loc := ("rows", SV.obj 0) :: ("cell", SV.int cell) :: ("left", SV.int left) :: ("text", SV.str text) :: rest
end
section
variable {Z : Zt} {D : Nat} {σ σ' σ₂ : List SObj} {κ : Ctx} {loc loc' loc₁ : Loc}

noncomputable def sepC (m : Int) : Nat := [32, 10, 9, 13].getD m.toNat 32
noncomputable def fileU (st : Int × Str) (u : Int) : Int × Str := ((st.1.fdiv 5).fdiv 4, st.2 ++ (fmtW (st.1.fmod 5) (Str.ofString (toString u)) ++ signs (sepC ((st.1.fdiv 5).fmod 4))))
noncomputable def fileR (st : Int × Str) (row : List Int) : Int × Str := ((row.foldl fileU st).1, (row.foldl fileU st).2 ++ Str.ofString ".\n")
noncomputable def fileT (cell : Int) (r1 r2 : List Int) : Str := (fileR (fileR ((cell.natAbs : Int), Str.ofString "") r1) r2).2

theorem sep_get {m : Int} (h : 0 ≤ m ∧ m < 4) : (seqIndex? m (Str.ofString " \n\t\r").length).bind ((Str.ofString " \n\t\r").cps[·]?) = some (sepC m) := by
  obtain ⟨a, b⟩ := h
  have : m = 0 ∨ m = 1 ∨ m = 2 ∨ m = 3 := by (first | lia | omega)
  rcases this with rfl | rfl | rfl | rfl <;> decide +kernel

theorem locF_lt {cell left : Int} {text : Str} {i n : Nat} (h0 : 0 < n) (hi : i < n) : ∀ x v, (locF cell left text [("row", .obj i)]).lookup x = some v → SV.Lt n v := fun x v h => by
  have := lookup_mem h
  unfold locF at this
  simp only [List.mem_cons, List.not_mem_nil, or_false, Prod.mk.injEq] at this
  rcases this with ⟨_, rfl⟩ | ⟨_, rfl⟩ | ⟨_, rfl⟩ | ⟨_, rfl⟩ | ⟨_, rfl⟩
  · exact .obj h0
  · exact .int _
  · exact .int _
  · exact .str _
  · exact .obj hi
theorem locU_lt {cell left u : Int} {text w : Str} {i n : Nat} (h0 : 0 < n) (hi : i < n) : ∀ x v, (locF cell left text [("row", .obj i), ("unit", .int u), ("word", .str w)]).lookup x = some v → SV.Lt n v := fun x v h => by
  have := lookup_mem h
  unfold locF at this
  simp only [List.mem_cons, List.not_mem_nil, or_false, Prod.mk.injEq] at this
  rcases this with ⟨_, rfl⟩ | ⟨_, rfl⟩ | ⟨_, rfl⟩ | ⟨_, rfl⟩ | ⟨_, rfl⟩ | ⟨_, rfl⟩ | ⟨_, rfl⟩
  · exact .obj h0
  · exact .int _
  · exact .int _
  · exact .str _
  · exact .obj hi
  · exact .int _
  · exact .str _
theorem file_len {row : List Int} (hf : ∀ u ∈ row, ∀ m, (fmtW m (Str.ofString (toString u))).length ≤ 1000) : ∀ (st : Int × Str), (row.foldl fileU st).2.length ≤ st.2.length + 1001 * row.length := by
  induction row with
  | nil => intro st; exact Nat.le_refl _
  | cons u r ih =>
    intro st
    have h1 := ih (fun v hv => hf v (List.mem_cons_of_mem _ hv)) (fileU st u)
    have h2 : (fileU st u).2.length ≤ st.2.length + 1001 := by
      unfold fileU
      rw [strLen_append, strLen_append]
      have := hf u (List.mem_cons_self ..) (st.1.fmod 5)
      have : (signs (sepC ((st.1.fdiv 5).fmod 4))).length = 1 := rfl
      (first | lia | omega)
    rw [List.foldl_cons, List.length_cons]
    (first | lia | omega)

theorem rowFor {cell : Int} {target iter : Expr} {body : List Stmt} {pos : Pos} {i : Nat} {r : List Int} (hi : ∀ left text σ, XE Z D κ (locF cell left text [("row", .obj i)]) σ iter (.obj i) σ)
    (hA : ∀ left text u σ, ∃ loc₁, XA Z D κ (locF cell left text [("row", .obj i)]) σ target (.int u) loc₁ σ ∧ loc₁ = locF cell left text [("row", .obj i), ("unit", .int u)])
    (hB : ∀ (σ : List SObj) left text u, u ∈ r → text.length ≤ 1000000 → 0 < σ.length → i < σ.length → ∃ w, XSs Z D κ (locF cell left text [("row", .obj i), ("unit", .int u)]) σ body .next (locF cell (fileU (left, text) u).1 (fileU (left, text) u).2 [("row", .obj i), ("unit", .int u), ("word", w)]) σ)
    (hf : ∀ it v, letOwnedTupleGo target it v = pure ()) (hs : ∀ env x, foldedSetIterable iter env x = pure x) {left : Int} {text : Str} (e : σ[i]? = some (.list (iv r))) (h0 : 0 < σ.length)
    (hl : ∀ k, (((r.take k).foldl fileU (left, text)).2).length ≤ 1000000) :
    XS Z D κ (locF cell left text [("row", .obj i)]) σ (.For target iter body [] pos) .next (locF cell (r.foldl fileU (left, text)).1 (r.foldl fileU (left, text)).2 [("row", .obj i)]) σ := by
  have hil : i < σ.length := (List.getElem?_eq_some_iff.mp e).1
  refine XS.drop (τ := [.junk]) ?_ (by intro r h; cases h) (locF_lt h0 hil)
  have hj : ∀ k, (σ ++ [SObj.listIt i k]).set σ.length (.listIt i (k + 1)) = σ ++ [.listIt i (k + 1)] := fun k => by rw [List.set_append_right _ _ (Nat.le_refl _), Nat.sub_self]; rfl
  have := loop_list (Z := Z) (D := D) (κ := κ) (target := target) (body := body) (i := i) (j := σ.length) (xs := iv r) (fun k => locF cell ((r.take k).foldl fileU (left, text)).1 ((r.take k).foldl fileU (left, text)).2 [("row", .obj i)]) (fun k => σ ++ [.listIt i k])
    (fun k _ => ⟨by rw [List.getElem?_append_left hil]; exact e, by rw [List.getElem?_append_right (Nat.le_refl _), Nat.sub_self]; rfl⟩) (fun k x hx => by
      obtain ⟨u, rfl, hu⟩ := iv_get hx
      rw [hj]
      obtain ⟨loc₁, a1, rfl⟩ := hA ((r.take k).foldl fileU (left, text)).1 ((r.take k).foldl fileU (left, text)).2 u (σ ++ [.listIt i (k + 1)])
      obtain ⟨w, b⟩ := hB (σ ++ [.listIt i (k + 1)]) ((r.take k).foldl fileU (left, text)).1 ((r.take k).foldl fileU (left, text)).2 u (List.mem_of_getElem? hu) (hl k) (by simp) (by simp; (first | lia | omega))
      refine ⟨_, _, [("unit", .int u), ("word", w)], a1, ?_⟩
      have e2 : (r.take (k + 1)).foldl fileU (left, text) = fileU ((r.take k).foldl fileU (left, text)) u := by rw [List.take_add_one, hu, List.foldl_append]; rfl
      rw [e2]
      exact b) (iv r).length 0 (by simp)
  rw [iv_len, List.take_length] at this
  have e3 : (σ ++ [SObj.listIt i r.length]).set σ.length .junk = σ ++ [.junk] := by rw [List.set_append_right _ _ (Nat.le_refl _), Nat.sub_self]; rfl
  rw [e3] at this
  exact XS.for (hi left text σ) ⟨Itr.list e⟩ this hf hs

theorem fileFor {cell : Int} {targetO iterO targetI iterI : Expr} {bodyI : List Stmt} {stA : Stmt} {pos posI : Pos} {r1 r2 : List Int}
    (hIO : ∀ σ left text, XE Z D κ (locF cell left text []) σ iterO (.obj 0) σ)
    (hAO : ∀ left text i σ, XA Z D κ (locF cell left text []) σ targetO (.obj i) (locF cell left text [("row", .obj i)]) σ)
    (hi : ∀ i left text σ, XE Z D κ (locF cell left text [("row", .obj i)]) σ iterI (.obj i) σ)
    (hA : ∀ i left text u σ, XA Z D κ (locF cell left text [("row", .obj i)]) σ targetI (.int u) (locF cell left text [("row", .obj i), ("unit", .int u)]) σ)
    (hB : ∀ (i : Nat) (σ : List SObj) left text u, u ∈ r1 ++ r2 → text.length ≤ 1000000 → 0 < σ.length → i < σ.length → ∃ w, XSs Z D κ (locF cell left text [("row", .obj i), ("unit", .int u)]) σ bodyI .next (locF cell (fileU (left, text) u).1 (fileU (left, text) u).2 [("row", .obj i), ("unit", .int u), ("word", w)]) σ)
    (hS : ∀ i σ left text, text.length ≤ 1000000 → XS Z D κ (locF cell left text [("row", .obj i)]) σ stA .next (locF cell left (text ++ Str.ofString ".\n") [("row", .obj i)]) σ)
    (f1 : ∀ it v, letOwnedTupleGo targetO it v = pure ()) (g1 : ∀ env x, foldedSetIterable iterO env x = pure x) (f2 : ∀ it v, letOwnedTupleGo targetI it v = pure ()) (g2 : ∀ env x, foldedSetIterable iterI env x = pure x)
    (hf : ∀ u ∈ r1 ++ r2, ∀ m, (fmtW m (Str.ofString (toString u))).length ≤ 1000) (h1 : r1.length ≤ 100) (h2 : r2.length ≤ 100) {left0 : Int} {text0 : Str} (h0 : text0.length ≤ 100) :
    XS Z D κ (locF cell left0 text0 []) [.list [.obj 1, .obj 2], .list (iv r1), .list (iv r2)] (.For targetO iterO [.For targetI iterI bodyI [] posI, stA] [] pos) .next (locF cell (fileR (fileR (left0, text0) r1) r2).1 (fileR (fileR (left0, text0) r1) r2).2 []) [.list [.obj 1, .obj 2], .list (iv r1), .list (iv r2), .junk] := by
  have row : ∀ (i : Nat) (r : List Int) (σ : List SObj) (left : Int) (text : Str), (∀ u ∈ r, u ∈ r1 ++ r2) → r.length ≤ 100 → text.length ≤ 200000 → σ[i]? = some (.list (iv r)) → 0 < σ.length → XSs Z D κ (locF cell left text [("row", .obj i)]) σ [.For targetI iterI bodyI [] posI, stA] .next (locF cell (fileR (left, text) r).1 (fileR (left, text) r).2 [("row", .obj i)]) σ := fun i r σ left text hr hl ht e hp => by
    have fl := fun k => file_len (row := r.take k) (fun u hu => hf u (hr u (List.mem_of_mem_take hu))) (left, text)
    have fk : ∀ k, (((r.take k).foldl fileU (left, text)).2).length ≤ 1000000 := fun k => by
      have := fl k
      have h3 : (r.take k).length ≤ 100 := by rw [List.length_take]; (first | lia | omega)
      dsimp only at this
      (first | lia | omega)
    refine .cons (rowFor (r := r) (hi i) (fun left text u σ => ⟨_, hA i left text u σ, rfl⟩) (fun σ left text u hu => hB i σ left text u (hr u hu)) f2 g2 e hp fk) (.one (hS i σ _ _ ?_))
    have := fk r.length
    rw [List.take_length] at this
    exact this
  have fr1 : (fileR (left0, text0) r1).2.length ≤ 200000 := by
    have := file_len (row := r1) (fun u hu => hf u (List.mem_append_left _ hu)) (left0, text0)
    unfold fileR
    rw [strLen_append]
    have e : (Str.ofString ".\n").length = 2 := by decide
    dsimp only at this
    (first | lia | omega)
  refine XS.for (n := 2) (hIO _ _ _) ⟨.list rfl⟩ ?_ f1 g1
  refine .turn (x := .obj 1) (σ₁ := [.list [.obj 1, .obj 2], .list (iv r1), .list (iv r2), .listIt 0 1]) (loc₂ := locF cell (fileR (left0, text0) r1).1 (fileR (left0, text0) r1).2 []) (g := .next) (n := 1) (Nxt.list (i := 0) (k := 0) rfl rfl rfl) (hAO _ _ 1 _).h (XSs.forget [("row", .obj 1)] (row 1 r1 _ _ _ (fun u h => List.mem_append_left _ h) h1 (by (first | lia | omega)) rfl (by simp))).h (.inl rfl) ?_
  refine .turn (x := .obj 2) (σ₁ := [.list [.obj 1, .obj 2], .list (iv r1), .list (iv r2), .listIt 0 2]) (loc₂ := locF cell (fileR (fileR (left0, text0) r1) r2).1 (fileR (fileR (left0, text0) r1) r2).2 []) (g := .next) (n := 0) (Nxt.list (i := 0) (k := 1) rfl rfl rfl) (hAO _ _ 2 _).h (XSs.forget [("row", .obj 2)] (row 2 r2 _ _ _ (fun u h => List.mem_append_right _ h) h2 fr1 rfl (by simp))).h (.inl rfl) ?_
  exact .stop (Nxt.listEnd (i := 0) (k := 2) rfl rfl rfl)

theorem c_file (W : W39 Z) (hD : 1 ≤ D) {cell : Int} {r1 r2 : List Int} (hu : ∀ u ∈ r1 ++ r2, Sz u ∧ WordOk (Str.ofString (toString u))) (hf : ∀ u ∈ r1 ++ r2, ∀ m, (fmtW m (Str.ofString (toString u))).length ≤ 1000) (h1 : r1.length ≤ 100) (h2 : r2.length ≤ 100) :
    CallC Z D (.fix (.ref 210)) [.obj 0, .int cell] [.list [.obj 1, .obj 2], .list (iv r1), .list (iv r2)] (.str (fileT cell r1 r2)) [.list [.obj 1, .obj 2], .list (iv r1), .list (iv r2)] := by
  obtain ⟨D, rfl⟩ : ∃ k, D = k + 1 := ⟨D - 1, by (first | lia | omega)⟩
  have F := isFn_of W (a := 210) rfl rfl rfl rfl rfl rfl rfl rfl rfl rfl rfl
  refine CallC.drop0' [.list [.obj 1, .obj 2], .list (iv r1), .list (iv r2), .junk] ?_ [.junk] rfl (.str _)
  refine CallC.def (f := .ret (.str (fileT cell r1 r2))) (names := ["rows", "cell"]) (loc := [("rows", .obj 0), ("cell", .int cell)]) W F (fun vs h => by obtain ⟨a, b, rfl⟩ := list2 h; rfl) rfl rfl (by decide +kernel) (by decide +kernel) (by decide +kernel) rfl fun κ C => ?_
  clear F
  dsimp only at C
  apply Exists.intro
  apply XSs.cons
  · walk_at "my s"
  apply XSs.cons
  · walk_at "my s"
  apply XSs.cons
  · refine fileFor (cell := cell) (r1 := r1) (r2 := r2) (left0 := (cell.natAbs : Int)) (text0 := Str.ofString "") (fun σ left text => ?_) (fun left text i σ => ?_) (fun i left text σ => ?_) (fun i left text u σ => ?_) (fun i σ left text u hur ht h0 hi => ?_) (fun i σ left text ht => ?_) (fun _ _ => rfl) (fun _ _ => rfl) (fun _ _ => rfl) (fun _ _ => rfl) hf h1 h2 (Nat.zero_le _)
    · walk_at "my e"
    · exact XA.var C rfl (.there rfl (.there rfl (.there rfl (.there rfl .new))))
    · walk_at "my e"
    · exact XA.var C rfl (.there rfl (.there rfl (.there rfl (.there rfl (.there rfl .new)))))
    · obtain ⟨su, wo⟩ := hu u hur
      have hfm := hf u hur (left.fmod 5)
      have hw := wo.len
      generalize hww : Str.ofString (toString u) = w at wo hfm hw
      have m5 : 0 ≤ left.fmod 5 ∧ left.fmod 5 < 5 := by rw [Int.fmod_eq_emod_of_nonneg _ (by decide)]; (first | lia | omega)
      have m4 : 0 ≤ (left.fdiv 5).fmod 4 ∧ (left.fdiv 5).fmod 4 < 4 := by rw [Int.fmod_eq_emod_of_nonneg _ (by decide)]; (first | lia | omega)
      have sg1 := sep_get m4
      have sg0 : (decide ((left.fdiv 5).fmod 4 < -(2 ^ 63 : Int)) || decide ((left.fdiv 5).fmod 4 ≥ 2 ^ 63)) = false := by
        rw [Bool.or_eq_false_iff]; exact ⟨decide_eq_false (by (first | lia | omega)), decide_eq_false (by (first | lia | omega))⟩
      have s5 : Sz 5 := by unfold Sz; decide
      have s4 : Sz 4 := by unfold Sz; decide
      have l1 : (fmtW (left.fmod 5) w).length + (signs (sepC ((left.fdiv 5).fmod 4))).length ≤ sizeLine := Nat.le_trans (Nat.add_le_add hfm (Nat.le_refl _)) (by show 1000 + 1 ≤ sizeLine; decide)
      have l2 : text.length + (fmtW (left.fmod 5) w ++ signs (sepC ((left.fdiv 5).fmod 4))).length ≤ sizeLine := by
        rw [strLen_append]; exact Nat.le_trans (Nat.add_le_add ht (Nat.add_le_add hfm (Nat.le_refl _))) (by show 1000000 + (1000 + 1) ≤ sizeLine; decide)
      have hw2 : w.length ≤ sizeLine := Nat.le_trans hw (by decide)
      refine ⟨.str (fmtW (left.fmod 5) w), ?_⟩
      unfold fileU
      rw [hww]
      apply XSs.cons (loc₁ := locF cell left text [("row", .obj i), ("unit", .int u), ("word", .str w)]) (σ₁ := σ)
      · rw [← hww]
        walk_at "my s"
      apply XSs.cons (loc₁ := locF cell left text [("row", .obj i), ("unit", .int u), ("word", .str (fmtW (left.fmod 5) w))]) (σ₁ := σ)
      · obtain ⟨c1, c2⟩ := wo.cut
        have hm : left.fmod 5 = 0 ∨ left.fmod 5 = 1 ∨ left.fmod 5 = 2 ∨ left.fmod 5 = 3 ∨ left.fmod 5 = 4 := by (first | lia | omega)
        clear l1 l2 sg1 sg0 hfm
        rcases hm with hm | hm | hm | hm | hm
        · have e : fmtW (left.fmod 5) w = Str.ofString "\"" ++ w ++ Str.ofString " \"" := by rw [hm]; rfl
          have t0 : (left.fmod 5 == 0) = true := by rw [hm]; rfl
          have a1 : (Str.ofString "\"").length + w.length ≤ sizeLine := Nat.le_trans (Nat.add_le_add (Nat.le_refl _) hw) (by decide)
          have a2 : (Str.ofString "\"" ++ w).length + (Str.ofString " \"").length ≤ sizeLine := by rw [strLen_append]; exact Nat.le_trans (Nat.add_le_add (Nat.add_le_add (Nat.le_refl _) hw) (Nat.le_refl _)) (by decide)
          rw [e]
          walk_at "my s"
        · have e : fmtW (left.fmod 5) w = strCut w none (some 1) ++ Str.ofString "_" ++ strCut w (some 1) none := by rw [hm]; rfl
          have t0 : (left.fmod 5 == 0) = false := by rw [hm]; rfl
          have t1 : (left.fmod 5 == 1) = true := by rw [hm]; rfl
          have a1 : (strCut w none (some 1)).length + (Str.ofString "_").length ≤ sizeLine := Nat.le_trans (Nat.add_le_add c1 (Nat.le_refl _)) (by decide)
          have a2 : (strCut w none (some 1) ++ Str.ofString "_").length + (strCut w (some 1) none).length ≤ sizeLine := by rw [strLen_append]; exact Nat.le_trans (Nat.add_le_add (Nat.add_le_add c1 (Nat.le_refl _)) c2) (by decide)
          rw [e]
          walk_at "my s"
        · have e : fmtW (left.fmod 5) w = Txt.join (Str.ofString "") (escL w) := by rw [hm]; rfl
          have t0 : (left.fmod 5 == 0) = false := by rw [hm]; rfl
          have t1 : (left.fmod 5 == 1) = false := by rw [hm]; rfl
          have t2 : (left.fmod 5 == 2) = true := by rw [hm]; rfl
          rw [e]
          refine XS.drop (τ := [.junk, .list (sv (escL w))]) ?_ (by intro r h; cases h) (locU_lt h0 hi)
          have hgl : (σ ++ [SObj.junk, .list (sv (escL w))])[σ.length + 1]? = some (.list ((escL w).map SV.str)) := (get_end2 _ _).2
          have hj := wo.join
          apply XS.ifF
          · walk_at "my t"
          apply XSs.one
          apply XS.ifF
          · walk_at "my t"
          apply XSs.one
          apply XS.ifT
          · walk_at "my t"
          apply XSs.one
          apply XS.assign
          · apply XE.method
            · assumption
            · walk_at "my e"
            · walk_at "my M"
            · apply XL.cons
              · exact esc_comp wo.ascii (Nat.le_trans hw (by decide)) (XE.var C rfl rfl rfl) (fun _ _ => rfl)
              · exact XL.nil
              · exact fun _ => rfl
            · walk_at "my keep"
            · exact XK.join hgl hj
            · exact fun _ => rfl
            · exact fun _ => ⟨_, rfl⟩
          · walk_at "my a"
          · exact fun _ => rfl
          · exact fun _ => rfl
          · exact fun _ => rfl
        · have e : fmtW (left.fmod 5) w = Str.ofString "00" ++ w := by rw [hm]; rfl
          have t0 : (left.fmod 5 == 0) = false := by rw [hm]; rfl
          have t1 : (left.fmod 5 == 1) = false := by rw [hm]; rfl
          have t2 : (left.fmod 5 == 2) = false := by rw [hm]; rfl
          have t3 : (left.fmod 5 == 3) = true := by rw [hm]; rfl
          have a1 : (Str.ofString "00").length + w.length ≤ sizeLine := Nat.le_trans (Nat.add_le_add (Nat.le_refl _) hw) (by decide)
          rw [e]
          walk_at "my s"
        · have e : fmtW (left.fmod 5) w = w := by rw [hm]; rfl
          have t0 : (left.fmod 5 == 0) = false := by rw [hm]; rfl
          have t1 : (left.fmod 5 == 1) = false := by rw [hm]; rfl
          have t2 : (left.fmod 5 == 2) = false := by rw [hm]; rfl
          have t3 : (left.fmod 5 == 3) = false := by rw [hm]; rfl
          rw [e]
          walk_at "my s"
      clear hu hf hfm m5 m4 hww
      walk_at "my ss"
    · have g1 : text.length + (Str.ofString ".\n").length ≤ sizeLine := Nat.le_trans (Nat.add_le_add ht (Nat.le_refl _)) (by decide)
      walk_at "my s"
  walk_at "my ss"
end
section
variable {Z : Zt} {D : Nat} {σ σ' σ₂ : List SObj} {κ κ' : Ctx} {loc loc' loc₁ : Loc}

theorem compL {target elt : Expr} {nm : Str} {i : Nat} {xs : List SV} (R : SV → SV) (e : σ[i]? = some (.list xs))
    (hA : ∀ (loc : Loc) x σ, (loc = [] ∨ ∃ v, loc = ([(nm, v)] : Loc)) → XA Z D κ' loc σ target x [(nm, x)] σ) (hE : ∀ x ∈ xs, ∀ σ, XE Z D κ' [(nm, x)] σ elt (R x) σ) (hl : xs.length ≤ 100000) :
    ∀ (n k : Nat) (loc : Loc), k + n = xs.length → (loc = [] ∨ ∃ v, loc = ([(nm, v)] : Loc)) →
      LoopC Z D κ' target elt (.obj σ.length) (σ.length + 1) n loc (σ ++ [.listIt i k, .list ((xs.take k).map R)]) ((xs.take k).map R) (σ ++ [.junk, .list (xs.map R)]) (xs.map R) := by
  have hi : i < σ.length := (List.getElem?_eq_some_iff.mp e).1
  have ei : ∀ a b, (σ ++ [a, b])[i]? = some (SObj.list xs) := fun a b => by rw [List.getElem?_append_left hi]; exact e
  intro n
  induction n with
  | zero =>
    intro k loc hk _
    obtain rfl : k = xs.length := by (first | lia | omega)
    rw [List.take_length]
    have := Nxt.listEnd (Z := Z) (D := D) (ei (.listIt i xs.length) (.list (xs.map R))) (get_end2 _ _).1 (by simp)
    rw [set_end2] at this
    exact .stop this
  | succ n ih =>
    intro k loc hk hloc
    have hx : xs[k]? = some (xs[k]'(by (first | lia | omega))) := List.getElem?_eq_getElem (by (first | lia | omega))
    have hm : xs[k]'(by (first | lia | omega)) ∈ xs := List.getElem_mem _
    generalize xs[k]'(by (first | lia | omega)) = x at hx hm
    have n1 := Nxt.list (Z := Z) (D := D) (ei (.listIt i k) (.list ((xs.take k).map R))) (get_end2 _ _).1 hx
    rw [set_end2] at n1
    refine .turn n1 (hA loc x _ hloc).h (hE x hm _).h (get_end2 _ _).2 (by rw [List.length_map, List.length_take]; exact Nat.le_trans (show min k xs.length ≤ 100000 by (first | lia | omega)) (by decide)) ?_
    rw [set_end2']
    have e2 : (xs.take (k + 1)).map R = (xs.take k).map R ++ [R x] := by rw [List.take_add_one, hx, List.map_append]; rfl
    rw [← e2]
    exact ih (k + 1) _ (by (first | lia | omega)) (.inr ⟨_, rfl⟩)
theorem compE {target elt iter : Expr} {scope : Scope} {pos : Pos} {nm : Str} {i : Nat} {xs : List SV} (K : CompOk κ κ' scope) (R : SV → SV) (h1 : XE Z D κ loc σ' iter (.obj i) σ) (e : σ[i]? = some (.list xs))
    (hA : ∀ (loc : Loc) x σ, (loc = [] ∨ ∃ v, loc = ([(nm, v)] : Loc)) → XA Z D κ' loc σ target x [(nm, x)] σ) (hE : ∀ x ∈ xs, ∀ σ, XE Z D κ' [(nm, x)] σ elt (R x) σ) (hl : xs.length ≤ 100000)
    (ht : ∀ it v, letOwnedTupleGo target it v = pure ()) (hs : ∀ env y, foldedSetIterable iter env y = pure y) :
    XE Z D κ loc σ' (.ListComp elt [⟨target, iter, [], 0⟩] scope pos) (.obj (σ.length + 1)) (σ ++ [.junk, .list (xs.map R)]) := by
  have l0 := compL R e hA hE hl xs.length 0 [] (by (first | lia | omega)) (.inl rfl)
  have e9 : (σ ++ [SObj.listIt i 0]).length = σ.length + 1 := by simp
  have e8 : σ ++ [SObj.listIt i 0] ++ [.list []] = σ ++ [.listIt i 0, .list []] := by simp
  refine ⟨?_⟩
  have := EvE.comp (Z := Z) (D := D) (n := xs.length) (elt := elt) (target := target) (pos := pos) K h1.h (Itr.list e) (Itr.listIt (by rw [e8]; exact (get_end2 _ _).1)) (by rw [e9, e8]; exact l0) ht hs
  rw [e9] at this
  exact this
theorem pickRun (xs : List SV) (a k : Nat) : ((List.range k).map (a + ·)).filterMap (fun i => xs[i]?) = (xs.drop a).take k := by
  have := pick_run xs.toArray a k
  simpa using this
theorem pick_tail {xs : List SV} {a : Nat} (ha : a ≤ xs.length) : pickL xs (some (a : Int)) none none = xs.drop a := by
  have e : sliceBounds (some (a : Int)) none none xs.length = ((a : Int), (xs.length : Int), 1) := by
    simp only [sliceBounds, Option.getD_none]
    have h1 : ¬ ((a : Int) < 0) := by (first | lia | omega)
    simp only [h1, if_false, show (1 : Int) > 0 by decide, if_true]
    congr 1
    (first | lia | omega)
  unfold pickL
  rw [e]
  simp only [sliceRange_one, pickRun]
  rw [List.take_of_length_le (by simp)]
theorem pick_head {xs : List SV} {b : Nat} (hb : b ≤ xs.length) : pickL xs none (some (b : Int)) none = xs.take b := by
  have e : sliceBounds none (some (b : Int)) none xs.length = (((0 : Nat) : Int), (b : Int), 1) := by
    simp only [sliceBounds, Option.getD_none]
    have h2 : ¬ ((b : Int) < 0) := by (first | lia | omega)
    simp only [h2, if_false, show (1 : Int) > 0 by decide, if_true]
    congr 1
    congr 1; (first | lia | omega)
  unfold pickL
  rw [e]
  simp only [sliceRange_one, pickRun]
  simp
theorem pick_rev {xs : List SV} : pickL xs none none (some (-1)) = xs.reverse := by
  have e : sliceBounds none none (some (-1)) xs.length = ((xs.length : Int) - 1, -1, -1) := by
    simp only [sliceBounds, Option.getD_some, show ¬ ((-1 : Int) > 0) by decide, if_false]
  have hr : sliceRange ((xs.length : Int) - 1) (-1) (-1) = (List.range xs.length).map fun k => xs.length - 1 - k := by
    unfold sliceRange
    simp only [show ¬ ((-1 : Int) > 0) by decide, if_false]
    by_cases h : 0 < xs.length
    · have e1 : (xs.length : Int) - 1 > -1 := by (first | lia | omega)
      have e2 : (((xs.length : Int) - 1 - -1 - -1 - 1) / (- -1)).toNat = xs.length := by
        have : (xs.length : Int) - 1 - -1 - -1 - 1 = xs.length := by (first | lia | omega)
        rw [this]; simp
      simp only [e1, if_true, e2]
      refine List.map_congr_left fun k hk => ?_
      have := List.mem_range.mp hk
      (first | lia | omega)
    · have e1 : ¬ ((xs.length : Int) - 1 > -1) := by (first | lia | omega)
      have e2 : xs.length = 0 := by (first | lia | omega)
      simp only [e1, if_false, e2]
      rfl
  unfold pickL
  rw [e]
  dsimp only
  rw [hr]
  have go : ∀ k, k ≤ xs.length → ((List.range k).map fun j => xs.length - 1 - j).filterMap (fun i => xs[i]?) = xs.reverse.take k := by
    intro k
    induction k with
    | zero => intro _; simp
    | succ k ih =>
      intro hk
      rw [List.range_succ, List.map_append, List.filterMap_append, ih (by (first | lia | omega)), List.take_add_one]
      congr 1
      rw [List.getElem?_reverse (by (first | lia | omega))]
      simp only [List.map_cons, List.map_nil, List.filterMap_cons, List.filterMap_nil]
      cases xs[xs.length - 1 - k]? <;> rfl
  rw [go xs.length (Nat.le_refl _), List.take_of_length_le (by simp)]
end
section
variable {Z : Zt} {D : Nat} {σ σ' σ₂ : List SObj} {κ κ' : Ctx} {loc loc' loc₁ : Loc}

theorem XC.neL {n i j : Nat} {xs ys : List SV} (e1 : σ[i]? = some (.list xs)) (e2 : σ[j]? = some (.list ys)) (hl : xs.length = ys.length) (h : ∀ (k : Nat) (x y : SV), xs[k]? = some x → ys[k]? = some y → Same σ n x y) (hn : n + 1 ≤ 8 * D) : XC Z D .NotEq (.obj i) (.obj j) σ false σ := ⟨.neList e1 e2 hl h hn⟩
theorem XC.eqL {n i j : Nat} {xs ys : List SV} (e1 : σ[i]? = some (.list xs)) (e2 : σ[j]? = some (.list ys)) (hl : xs.length = ys.length) (h : ∀ (k : Nat) (x y : SV), xs[k]? = some x → ys[k]? = some y → Same σ n x y) (hn : n + 1 ≤ 8 * D) : XC Z D .Eq (.obj i) (.obj j) σ true σ := ⟨.eqList e1 e2 hl h hn⟩
theorem XB.addL {i j : Nat} {xs ys : List SV} (e1 : σ[i]? = some (.list xs)) (e2 : σ[j]? = some (.list ys)) (h : xs.length + ys.length ≤ sizeLine) : XB Z D .Add (.obj i) (.obj j) σ (.obj σ.length) (σ ++ [.list (xs ++ ys)]) := ⟨.addList e1 e2 h⟩
theorem Same.refl_sv {xs : List Str} {n : Nat} : ∀ (k : Nat) (x y : SV), (sv xs)[k]? = some x → (sv xs)[k]? = some y → Same σ n x y := fun k x y e1 e2 => by
  rw [e1] at e2; cases e2
  have := List.mem_of_getElem? e1
  unfold sv at this
  obtain ⟨a, _, rfl⟩ := List.mem_map.mp this
  exact .str a
theorem Same.pair {p : Int × Int} {n : Nat} : Same σ (n + 1) (pairV p) (pairV p) := .tup rfl fun i x y e1 e2 => by
  rw [e1] at e2; cases e2
  have := List.mem_of_getElem? e1
  simp at this
  rcases this with rfl | rfl <;> exact .int _

/-- a contract with no state and one new list, elsewhere -/
theorem CallC.newT {f r r' : SV} {args L : List SV} (h : CallC Z D f args [] r [.list L]) (hf : SV.Lt 0 f) (ha : ∀ x ∈ args, SV.Lt 0 x) (hL : ∀ x ∈ L, SV.Lt 0 x) (hr : RenV [σ.length] r r') : CallC Z D f args σ r' (σ ++ [.list L]) := by
  have e : ([] : List Nat) ++ List.range' σ.length ((σ ++ [SObj.list L]).length - σ.length) = [σ.length] := by simp
  refine h.frame .nil .nil (.closed hf) (.closed ha) (by simp) ?_ (fun j hj _ => by simp [List.getElem?_append, hj]) ?_
  · rw [e]; exact .cons (o₂ := .list L) (by simp) (.list (.closed hL)) .nil
  · rw [e]; exact hr

theorem compPlain {scope : Scope} (h1 : ∀ env : Env, closureFor scope env = pure []) (h2 : ∀ y ∈ scope.names, y.2 ≠ .cell) (h3 : scope.kind = .function) (h4 : ∀ y ∈ scope.names, y.2 = .local → scope.names.lookup y.1 = some .local) (h5 : ∀ env : Env, relabel scope env = scope) : CompOk κ ⟨κ.name, scope, κ.cd, []⟩ scope :=
  ⟨fun env ρ _ _ => h1 env, by intro x hx; simp at hx, h2, h3, h4, fun env _ => h5 env, rfl, rfl⟩
noncomputable def strOfV : SV → SV
  | .int u => .str (Str.ofString (toString u))
  | _ => .none
theorem strs_eq (row : List Int) : (iv row).map strOfV = sv (row.map fun u => Str.ofString (toString u)) := by
  unfold iv sv; rw [List.map_map, List.map_map]; rfl
theorem strs_comp (W : W39 Z) {row : List Int} (hz : ∀ u ∈ row, Sz u) (hl : row.length ≤ 1000) {i : Nat} (e : σ[i]? = some (.list (iv row))) {iter : Expr} {p1 p2 p3 p4 p5 : Pos} (h1 : XE Z D κ loc σ iter (.obj i) σ) (hs : ∀ env y, foldedSetIterable iter env y = pure y) :
    XE Z D κ loc σ (.ListComp (.Call (.Name "str" p1) [.Name "unit" p2] [] p3) [⟨.Name "unit" p4, iter, [], 0⟩] ⟨.function, [(Str.ofString ".0", .local), (Str.ofString "unit", .local), (Str.ofString "str", .globalImplicit)], false, false, []⟩ p5) (.obj (σ.length + 1)) (σ ++ [.junk, .list (sv (row.map fun u => Str.ofString (toString u)))]) := by
  rw [← strs_eq]
  have C' : Cx ⟨κ.name, ⟨.function, [(Str.ofString ".0", .local), (Str.ofString "unit", .local), (Str.ofString "str", .globalImplicit)], false, false, []⟩, κ.cd, []⟩ [(Str.ofString ".0", .local), (Str.ofString "unit", .local), (Str.ofString "str", .globalImplicit)] [] := ⟨rfl, rfl⟩
  refine compE (nm := "unit") (compPlain (fun _ => rfl) (by decide +kernel) rfl (by decide +kernel) (fun _ => rfl)) strOfV h1 e (fun loc x σ h => ?_) (fun x hx σ => ?_) (by rw [iv_len]; (first | lia | omega)) (fun _ _ => rfl) hs
  · rcases h with rfl | ⟨v, rfl⟩
    · exact XA.var C' rfl .new
    · exact XA.var C' rfl .here
  · unfold iv at hx
    obtain ⟨u, hu, rfl⟩ := List.mem_map.mp hx
    exact XE.call W (XE.bt W C' rfl rfl rfl) (XL.cons (XE.var C' rfl rfl rfl) XL.nil fun _ => rfl) (.inr (.inl ⟨_, rfl⟩)) (XK.strInt (hz u hu)) fun _ => rfl

noncomputable def startOf (row : List Int) (way factor : Int) : Int × Int := (sumL row way (prodL row factor), prodL row factor)
noncomputable def upP (name : Str) (row : List Int) (k : Nat) : Str := pileOf name (row.take (row.length - k))
noncomputable def upU (row : List Int) (k : Nat) : Int := row.getD (row.length - 1 - k) 0

structure CbOk (name : Str) (row : List Int) (way factor turn : Int) (M : Nat) : Prop where
  prod : ∀ k, Sz (prodL (row.take k) factor)
  sum : ∀ u ∈ row, u ≠ 0 ∧ Sz u ∧ Sz ((prodL row factor).fdiv u)
  down : DownOk way turn (startOf row way factor) row.length name
  units : unitsD way turn (startOf row way factor) row.length = row
  zero : (dn way turn (startOf row way factor) row.length).1 = 0
  len : M ≤ 1000
  w1 : ∀ k, k < M → wsT "." (pileOf name row) (0, 1) k ≠ Str.ofString ""
  w2 : wsT "." (pileOf name row) (0, 1) M = Str.ofString ""
  w3 : (List.range M).map (wsT "." (pileOf name row) (0, 1)) = splitAt name (Str.ofString ".") ++ row.map fun u => Str.ofString (toString u)
  up : UpOk way (upP name row) (upU row) (0, (dn way turn (startOf row way factor) row.length).2) row.length
  back : ∀ k, k ≤ row.length → (upS way (upU row) (0, (dn way turn (startOf row way factor) row.length).2) k).1 = dn way turn (startOf row way factor) (row.length - k)
  spare : (upS way (upU row) (0, (dn way turn (startOf row way factor) row.length).2) row.length).2 = 0
  no : ∃ i j, endR (pileOf name row) = some (some (i, j))
  nm : name.length ≤ 100 ∧ (splitAt name (Str.ofString ".")).length ≤ 100
  yes : endR name = some none ∧ (name == Str.ofString "") = false ∧ ∃ c d, (seqIndex? 0 name.length).bind (name.cps[·]?) = some c ∧ (seqIndex? (-1) name.length).bind (name.cps[·]?) = some d ∧ ((⟨#[c]⟩ : Str) == Str.ofString ".") = false ∧ ((⟨#[d]⟩ : Str) == Str.ofString ".") = false

theorem back_eq {name : Str} {row : List Int} {way factor turn : Int} {M : Nat} (H : CbOk name row way factor turn M) : backV way (upU row) (0, (dn way turn (startOf row way factor) row.length).2) row.length = (seenV way turn (startOf row way factor) row.length).reverse := by
  apply List.ext_getElem?
  intro k
  unfold backV seenV
  by_cases h : k < row.length + 1
  · rw [List.getElem?_reverse (by simp; (first | lia | omega)), List.getElem?_map, List.getElem?_map, List.length_map, List.length_range, List.getElem?_range h, List.getElem?_range (by (first | lia | omega))]
    simp only [Option.map_some]
    rw [H.back k (by (first | lia | omega))]
    congr 2
  · rw [List.getElem?_eq_none (by simp; (first | lia | omega)), List.getElem?_eq_none (by simp; (first | lia | omega))]

theorem c_comes_back (W : W39 Z) (hD : 18 ≤ D) {name : Str} {row : List Int} {way factor turn : Int} {M : Nat} (H : CbOk name row way factor turn M) :
    CallC Z D (.fix (.ref 250)) [.str name, .obj 0, .int way, .int factor, .int turn] [.list (iv row)] (.bool true) [.list (iv row)] := by
  obtain ⟨D, rfl⟩ : ∃ k, D = k + 1 := ⟨D - 1, by (first | lia | omega)⟩
  have F := isFn_of W (a := 250) rfl rfl rfl rfl rfl rfl rfl rfl rfl rfl rfl
  obtain ⟨p, hp⟩ : ∃ p, p = startOf row way factor := ⟨_, rfl⟩
  obtain ⟨pile, hpile⟩ : ∃ x, x = pileOf name row := ⟨_, rfl⟩
  obtain ⟨seen, hseen⟩ : ∃ x, x = seenV way turn p row.length := ⟨_, rfl⟩
  obtain ⟨uN, huN⟩ : ∃ x, x = (dn way turn p row.length).2 := ⟨_, rfl⟩
  have hrl : row.length ≤ 1000 := H.down.hn
  have cp := c_product W (D := D) (by (first | lia | omega)) H.prod (fun u hu => (H.sum u hu).2.1)
  have cs := c_sum W (D := D) (by (first | lia | omega)) H.down.hw H.sum
  have cd := c_down W (D := D) (by (first | lia | omega)) H.down
  rw [H.units, ← hp, ← hpile, ← hseen] at cd
  have cw := c_words W (D := D) (text := pileOf name row) (by (first | lia | omega)) (by have := H.down.hlen row.length (Nat.le_refl _); rw [H.units] at this; (first | lia | omega)) (Nat.le_trans H.len (by decide)) H.w1 H.w2
  rw [H.w3, ← hpile] at cw
  have cu := c_up W (D := D) (by (first | lia | omega)) H.up
  rw [back_eq H, ← hp, ← hseen, ← huN] at cu
  have cup0 : upP name row 0 = pile := by unfold upP; rw [Nat.sub_zero, List.take_length, hpile]
  have cupN : upP name row row.length = name := by unfold upP; rw [Nat.sub_self]; rfl
  have csp := H.spare
  rw [← hp, ← huN] at csp
  rw [cup0, cupN, csp] at cu
  refine CallC.drop0' ([.list (iv row), .list seen, .list (sv (splitAt name (Str.ofString ".") ++ row.map fun u => Str.ofString (toString u))), .list (sv (splitAt name (Str.ofString "."))), .junk, .list (sv (row.map fun u => Str.ofString (toString u))), .list (sv (splitAt name (Str.ofString ".") ++ row.map fun u => Str.ofString (toString u))), .list seen.reverse, .list [.str name, .obj 7, .int 0], .list (pickL seen none none (some (-1))), .list [.str name, .obj 9, .int 0], .list [.str "False", .str "True"], .list [.str "False", .str "True"]]) ?_ _ rfl (.bool _)
  refine CallC.def (f := .ret (.bool true)) (names := ["name", "row", "way", "factor", "turn"]) (loc := [("name", .str name), ("row", .obj 0), ("way", .int way), ("factor", .int factor), ("turn", .int turn)]) W F (fun vs h => by obtain ⟨a, b, c, d, e, rfl⟩ := list5 h; rfl) rfl rfl (by decide +kernel) (by decide +kernel) (by decide +kernel) rfl fun κ C => ?_
  clear F
  dsimp only at C
  apply Exists.intro
  apply XSs.cons
  · walk_at "my s"
  apply XSs.cons
  · walk_at "my s"
  have cd1 := cd.newT (σ := [.list (iv row)]) (r' := .tup [.str pile, .obj 1]) (.fix _) (by simp; exact ⟨.str _, .int _, .int _, .int _, .int _⟩) (by rw [hseen]; exact seenV_lt) (.tups (.cons (.str _) (.cons (.obj rfl) .nil)))
  have hp1 : p.1 = sumL row way (prodL row factor) := by rw [hp]; rfl
  have hp2 : p.2 = prodL row factor := by rw [hp]; rfl
  rw [hp1, hp2] at cd1
  apply XSs.cons
  · walk_at "my s"
  have cw1 := cw.new (σ := [.list (iv row), .list seen]) (.fix _) (by simp; exact .str _) sv_lt
  have nl1 : name.length ≤ sizeLine := Nat.le_trans H.nm.1 (by decide)
  have nl2 : (splitAt name (Str.ofString ".")).length ≤ sizeLine := Nat.le_trans H.nm.2 (by decide)
  have nl3 : (sv (splitAt name (Str.ofString "."))).length + (sv (row.map fun u => Str.ofString (toString u))).length ≤ sizeLine := by
    unfold sv; rw [List.length_map, List.length_map, List.length_map]; exact Nat.le_trans (Nat.add_le_add H.nm.2 hrl) (by decide)
  have sva : ∀ a b : List Str, sv a ++ sv b = sv (a ++ b) := fun a b => by simp [sv]
  have sva2 : (splitAt name (Str.ofString ".")).map SV.str ++ sv (row.map fun u => Str.ofString (toString u)) = sv (splitAt name (Str.ofString ".") ++ row.map fun u => Str.ofString (toString u)) := sva _ _
  apply XSs.cons
  · apply XS.ifF
    · apply XT.cmp (c := false)
      · walk_at "my e"
      · apply XE.bin
        · apply XE.method
          · assumption
          · walk_at "my e"
          · walk_at "my M"
          · walk_at "my l"
          · walk_at "my keep"
          · exact XK.split rfl nl1 nl2
          · exact fun _ => rfl
          · exact fun _ => ⟨_, rfl⟩
        · exact strs_comp W (i := 0) (fun u hu => (H.sum u hu).2.1) hrl rfl (by walk_at "my e") (fun _ _ => rfl)
        · exact XB.addL rfl rfl nl3
      · rw [sva2]
        exact XC.neL (n := 1) (i := 2) rfl rfl rfl Same.refl_sv (by (first | lia | omega))
      · rfl
      · rfl
    · walk_at "my ss"
  have hlast : seen[((-1 : Int) + (seen.length : Int)).toNat]? = some (.tup [.int 0, .int uN]) := by
    have hz := H.zero
    rw [← hp] at hz
    rw [hseen]
    unfold seenV
    rw [List.length_map, List.length_range, show ((-1 : Int) + ((row.length + 1 : Nat) : Int)).toNat = row.length from by (first | lia | omega), List.getElem?_map, List.getElem?_range (by (first | lia | omega))]
    simp only [Option.map_some, pairV]
    rw [hz, huN]
  have hsl1 : -(seen.length : Int) ≤ -1 := by rw [hseen]; unfold seenV; rw [List.length_map, List.length_range]; (first | lia | omega)
  have hsl2 : seen.length ≤ sizeLine := by rw [hseen]; unfold seenV; rw [List.length_map, List.length_range]; exact Nat.le_trans (show row.length + 1 ≤ 1001 by (first | lia | omega)) (by decide)
  obtain ⟨S6, hS6⟩ : ∃ S : List SObj, S = [.list (iv row), .list seen, .list (sv (splitAt name (Str.ofString ".") ++ row.map fun u => Str.ofString (toString u))), .list (sv (splitAt name (Str.ofString "."))), .junk, .list (sv (row.map fun u => Str.ofString (toString u))), .list (sv (splitAt name (Str.ofString ".") ++ row.map fun u => Str.ofString (toString u)))] := ⟨_, rfl⟩
  have cr := c_refused W (D := D) (a := uN) (σ := S6) (by (first | lia | omega))
  have cu1 : CallC Z D (.fix (.ref 245)) [.str pile, .int 0, .int uN, .int way] S6 (.tup [.str name, .obj S6.length, .int 0]) (S6 ++ [.list seen.reverse]) := cu.newT (.fix _) (by simp; exact ⟨.str _, .int _, .int _, .int _⟩) (fun x hx => by rw [hseen] at hx; exact seenV_lt x (List.mem_reverse.mp hx)) (.tups (.cons (.str _) (.cons (.obj rfl) (.cons (.int _) .nil))))
  subst hS6

  obtain ⟨i0, j0, hno⟩ := H.no
  rw [← hpile] at hno
  obtain ⟨hy1, hy2, cc, dd, hy3, hy4, hy5, hy6⟩ := H.yes
  have pl1 : pile.length ≤ 1000 := by have := H.down.hlen row.length (Nat.le_refl _); rw [H.units] at this; rw [hpile]; exact this
  have cno : ∀ σ, CallC Z D (.fix (.ref 121)) [.str pile] σ (.bool false) σ := fun σ => c_is_HDN_no W (by (first | lia | omega)) hno pl1
  have cyes : ∀ σ, CallC Z D (.fix (.ref 121)) [.str name] σ (.bool true) σ := fun σ => c_is_HDN_yes W (by (first | lia | omega)) hy1 (Nat.le_trans H.nm.1 (by decide)) hy2 hy3 hy4 hy5 hy6

  apply XSs.cons
  · walk_at "my s"
  apply XSs.cons
  · walk_at "my s"
  apply XSs.cons
  · apply XS.ifF
    · apply XT.cmp (c := false)
      · walk_at "my e"
      · walk_at "my e"
      · refine XC.neL (n := 2) rfl rfl rfl (fun k x y e1 e2 => ?_) (by (first | lia | omega))
        match k, e1, e2 with
        | 0, e1, e2 => cases e1; cases e2; exact .str _
        | 1, e1, e2 =>
          cases e1; cases e2
          refine .list rfl rfl ?_ (fun k x y e1 e2 => ?_)
          · rw [pick_rev]
          · rw [pick_rev] at e2
            rw [e1] at e2; cases e2
            have := List.mem_reverse.mp (List.mem_of_getElem? e1)
            rw [hseen] at this
            unfold seenV at this
            obtain ⟨a, _, rfl⟩ := List.mem_map.mp this
            exact .pair
        | 2, e1, e2 => cases e1; cases e2; exact .int _
      · rfl
      · rfl
    · walk_at "my ss"
  apply XSs.stop
  · apply XS.ret
    apply XE.cmp
    · apply XE.list
      · apply XL.cons
        · apply XE.call
          · assumption
          · walk_at "my e"
          · apply XL.cons
            · apply XE.call
              · assumption
              · walk_at "my e"
              · walk_at "my l"
              · walk_at "my keep"
              · exact XK.of (cno _)
              · exact fun _ => rfl
            · exact XL.nil
            · exact fun _ => rfl
          · walk_at "my keep"
          · exact XK.strBool
          · exact fun _ => rfl
        · apply XL.cons
          · apply XE.call
            · assumption
            · walk_at "my e"
            · apply XL.cons
              · apply XE.call
                · assumption
                · walk_at "my e"
                · walk_at "my l"
                · walk_at "my keep"
                · exact XK.of (cyes _)
                · exact fun _ => rfl
              · exact XL.nil
              · exact fun _ => rfl
            · walk_at "my keep"
            · exact XK.strBool
            · exact fun _ => rfl
          · exact XL.nil
          · exact fun _ => rfl
        · exact fun _ => rfl
      · walk_at "my sl"
    · walk_at "my e"
    · refine XC.eqL (n := 1) rfl rfl rfl (fun k x y e1 e2 => ?_) (by (first | lia | omega))
      match k, e1, e2 with
      | 0, e1, e2 => cases e1; cases e2; exact .str _
      | 1, e1, e2 => cases e1; cases e2; exact .str _
    · rfl
  · intro h; cases h
end
section
variable {Z : Zt} {D : Nat} {σ σ' σ₂ : List SObj} {κ κ' : Ctx} {loc loc' loc₁ : Loc}

theorem EvS.assignCompX {elt target iter : Expr} {scope : Scope} {pos spos py : Pos} {y : Str} {loc₄ : Loc} {σ₁ σ₂ σ₄ : List SObj} {v it : SV} {n : Nat} {ys : List SV} (K : CompOk κ κ' scope) (h1 : EvE Z D κ loc σ iter v σ₁) (h2 : Itr Z D v σ₁ it σ₂) (hself : Itr Z D it (σ₂ ++ [.list []]) it (σ₂ ++ [.list []]))
    (h : LoopC Z D κ' target elt it σ₂.length n [] (σ₂ ++ [.list []]) [] σ' ys) (hN : EvA Z D κ loc σ' (.Name y py) (.obj σ₂.length) loc₄ σ₄)
    (hsw : ∀ env, env.scope = κ.scope → env.scope.kind = .function → swapsWith (.ListComp elt [⟨target, iter, [], 0⟩] scope pos) (some (.Name y py)) spos.line env = pure true)
    (ht : ∀ it v, letOwnedTupleGo target it v = pure () := by intro _ _; rfl) (hs : ∀ env x, foldedSetIterable iter env x = pure x := by intro _ _; rfl) :
    EvS Z D κ loc σ (.Assign [.Name y py] (.ListComp elt [⟨target, iter, [], 0⟩] scope pos) spos) .next loc₄ σ₄ := fun A s ρ env ok fr => by
  rw [exec_Assign_Name_used _ _ _ _ (hsw env fr.scope fr.kind')]
  refine wpAny_bind (wpAny_standAt (wpAny_bind ?_))
  show wpAny _ A (do let _ ← comprehension (.ListComp elt [⟨target, iter, [], 0⟩] scope pos) scope env _ (newList []) false (eval iter env) (some (PySem.assign (.Name y py) env))) _ _ s
  refine wpAny_bind (wm (wpAny_comprehension_free (use := some (PySem.assign (.Name y py) env)) (Q := fun _ s' => PostS Z D A κ env ρ s loc₄ σ₄ (fun ρ h fl => RepF ρ h .next fl) Flow.next s') rfl (hs env) (K.clos env ρ fr.scope fr.cells.1) K.kind K.names
    (wm (h1 A s ρ env ok fr) fun xv s₁ ⟨ρ₁, k₁, st₁, r₁⟩ => wm (h2 A s₁ ρ₁ xv k₁ r₁) fun vi s₂ ⟨ρ₂, k₂, st₂, r₂⟩ => ?_)) fun _ s' hq => wpAny_pure (wpAny_pure hq))
  have hsub : ∀ x ∈ κ'.cells, x.2 < ρ.length := fun x hx => by
    obtain ⟨y, hy, e⟩ := K.sub x hx
    rw [← e]; exact fr.cells.2 y hy
  have e1 : addrsOf ρ κ'.cells = addrsOf ρ₂ κ'.cells := by
    have := (st₁.trans st₂).mono.addrs hsub
    exact this.symm
  rw [e1]
  refine comp_block K hself h ht k₂ ((fr.step st₁).step st₂) r₂ fun acc C s' ρ' m ok' st' fr' ra hLC hC n1 c1 c2 c3 => ?_
  refine wm (hN A s' ρ' env acc ok' fr' ra) fun _ s'' ⟨ρ'', ok'', st'', fr'', _⟩ => ?_
  have n1' : ∃ o es ep, s''.heap.get? C = some o ∧ o.data = .dict es ep ∧ StrKeys es := by
    obtain ⟨o, es, ep, e1, e2, e3, _⟩ := n1
    obtain ⟨o', e', d', _⟩ := st''.keepd C o es ep e1 e2 c1 (by simpa using fun q => hLC q.symm)
    exact ⟨o', es, ep, e', d', e3⟩
  obtain ⟨o, es, ep, e1, e2, e3⟩ := n1'
  have n2 : s''.heap.Ns C (fun x => nsFind es x) := ⟨o, es, ep, e1, e2, e3, fun _ => rfl⟩
  refine ⟨_, n2, fun h' hs' => ?_⟩
  have c1' : C ∉ ρ'' := by
    obtain ⟨oC, _, _, eC, _⟩ := n1
    exact st''.mono.not_mem eC c1
  have stB : Step A (C :: [env.locals]) ρ₂ s₂ ρ'' s'' := (st'.weaken (by simp)).trans (st''.weaken (by simp))
  obtain ⟨okX, stX, frX, mo⟩ := PostS.dropC (X := [env.locals]) k₂ ok'' stB fr'' hLC hC n2 c1' c2 c3 hs'
  exact ⟨ρ'', okX, ((st₁.trans st₂).at).trans stX, frX, .next⟩
theorem compSX {target elt iter : Expr} {scope : Scope} {pos spos py : Pos} {y nm : Str} {i : Nat} {xs : List SV} (K : CompOk κ κ' scope) (R : SV → SV) (h1 : XE Z D κ loc σ' iter (.obj i) σ) (e : σ[i]? = some (.list xs))
    (hA : ∀ (loc : Loc) x σ, (loc = [] ∨ ∃ v, loc = ([(nm, v)] : Loc)) → XA Z D κ' loc σ target x [(nm, x)] σ) (hE : ∀ x ∈ xs, ∀ σ, XE Z D κ' [(nm, x)] σ elt (R x) σ) (hl : xs.length ≤ 100000)
    (hN : XA Z D κ loc (σ ++ [.junk, .list (xs.map R)]) (.Name y py) (.obj (σ.length + 1)) loc' σ₂)
    (hsw : ∀ env, env.scope = κ.scope → env.scope.kind = .function → swapsWith (.ListComp elt [⟨target, iter, [], 0⟩] scope pos) (some (.Name y py)) spos.line env = pure true)
    (ht : ∀ it v, letOwnedTupleGo target it v = pure ()) (hs : ∀ env y, foldedSetIterable iter env y = pure y) :
    XS Z D κ loc σ' (.Assign [.Name y py] (.ListComp elt [⟨target, iter, [], 0⟩] scope pos) spos) .next loc' σ₂ := by
  have l0 := compL R e hA hE hl xs.length 0 [] (by (first | lia | omega)) (.inl rfl)
  have e9 : (σ ++ [SObj.listIt i 0]).length = σ.length + 1 := by simp
  have e8 : σ ++ [SObj.listIt i 0] ++ [.list []] = σ ++ [.listIt i 0, .list []] := by simp
  refine ⟨?_⟩
  exact EvS.assignCompX (Z := Z) (D := D) (n := xs.length) (elt := elt) (target := target) (pos := pos) K h1.h (Itr.list e) (Itr.listIt (by rw [e8]; exact (get_end2 _ _).1)) (by rw [e9, e8]; exact l0) (by rw [e9]; exact hN.h) hsw ht hs


noncomputable def numV (x : Str) : Int := (PySem.intText? (Txt.replace (Txt.rstrip x) (Str.ofString "_") (Str.ofString ""))).getD 0
theorem numB_val {x : Str} {n : Int} (h : numB x n = true) : numV x = n := by
  unfold numB at h
  simp only [Bool.and_eq_true, beq_iff_eq] at h
  unfold numV
  rw [h.1.1.1]; rfl
noncomputable def numOfV : SV → SV
  | .str x => .int (numV x)
  | _ => .none
noncomputable def txts (row : List Int) : List Str := row.map fun u => Str.ofString (toString u)

structure HrOk (p : Int × Int) (way turn : Int) (N : Nat) (row : List Int) : Prop where
  down : DownOk way turn p N (Str.ofString "n")
  units : unitsD way turn p N = row
  zero : (dn way turn p N).1 = 0
  w1 : ∀ k, k < N + 1 → wsT "." (pileOf (Str.ofString "n") row) (0, 1) k ≠ Str.ofString ""
  w2 : wsT "." (pileOf (Str.ofString "n") row) (0, 1) (N + 1) = Str.ofString ""
  w3 : (List.range (N + 1)).map (wsT "." (pileOf (Str.ofString "n") row) (0, 1)) = Str.ofString "n" :: txts row
  num : ∀ u ∈ row, numB (Str.ofString (toString u)) u = true
  pos : ∀ u ∈ row, 0 ≤ u ∧ u.natAbs < 2 ^ 999
  least : ∀ k u, row[k]? = some u → ¬ u < least (row.take k) way ((k : Int) + 1 == (row.length : Int))
  prod : ∀ k, Sz (prodL (row.take k) 1)
  sum : ∀ u ∈ row, u ≠ 0 ∧ Sz u ∧ Sz ((prodL row 1).fdiv u)
  szs : Sz (sumL row way (prodL row 1)) ∧ Sz p.1 ∧ Sz p.2
  ways : way = 1 ∨ way = -1
  eq : sumL row way (prodL row 1) * p.2 = p.1 * prodL row 1

theorem c_has_a_row (W : W39 Z) (hD : 18 ≤ D) {p : Int × Int} {way turn : Int} {N : Nat} {row : List Int} (H : HrOk p way turn N row) :
    CallC Z D (.fix (.ref 255)) [.int p.1, .int p.2, .int way, .int turn] σ (.bool true) σ := by
  refine CallC.any ?_ (.fix _) (by simp; exact ⟨.int _, .int _, .int _, .int _⟩) (.bool _)
  obtain ⟨D, rfl⟩ : ∃ k, D = k + 1 := ⟨D - 1, by (first | lia | omega)⟩
  have F := isFn_of W (a := 255) rfl rfl rfl rfl rfl rfl rfl rfl rfl rfl rfl
  obtain ⟨pile, hpile⟩ : ∃ x, x = pileOf (Str.ofString "n") row := ⟨_, rfl⟩
  obtain ⟨seen, hseen⟩ : ∃ x, x = seenV way turn p N := ⟨_, rfl⟩
  obtain ⟨uN, huN⟩ : ∃ x, x = (dn way turn p N).2 := ⟨_, rfl⟩
  have hN : N ≤ 1000 := H.down.hn
  have hrl : row.length = N := by rw [← H.units]; unfold unitsD; simp
  have cd := c_down W (D := D) (by (first | lia | omega)) H.down
  rw [H.units, ← hpile, ← hseen] at cd
  have cw := c_words W (D := D) (text := pileOf (Str.ofString "n") row) (by (first | lia | omega)) (by have := H.down.hlen N (Nat.le_refl _); rw [H.units] at this; (first | lia | omega)) (by (first | lia | omega)) H.w1 H.w2
  rw [H.w3, ← hpile] at cw
  have hlast : seen[((-1 : Int) + (seen.length : Int)).toNat]? = some (.tup [.int 0, .int uN]) := by
    have hz := H.zero
    rw [hseen]
    unfold seenV
    rw [List.length_map, List.length_range, show ((-1 : Int) + ((N + 1 : Nat) : Int)).toNat = N from by (first | lia | omega), List.getElem?_map, List.getElem?_range (by (first | lia | omega))]
    simp only [Option.map_some, pairV]
    rw [hz, huN]
  have hsl1 : -(seen.length : Int) ≤ -1 := by rw [hseen]; unfold seenV; rw [List.length_map, List.length_range]; (first | lia | omega)
  have tl : ∀ a b : Str, True := fun _ _ => trivial
  have hws : (sv (Str.ofString "n" :: txts row)).length = N + 1 := by unfold sv txts; simp [hrl]
  have hwl : (sv (Str.ofString "n" :: txts row)).length ≤ sizeLine := by rw [hws]; exact Nat.le_trans (show N + 1 ≤ 1001 by (first | lia | omega)) (by decide)
  have hpick : pickL (sv (Str.ofString "n" :: txts row)) (some 1) none none = sv (txts row) := by
    have := pick_tail (xs := sv (Str.ofString "n" :: txts row)) (a := 1) (by rw [hws]; (first | lia | omega))
    exact this
  have hmap : (sv (txts row)).map numOfV = iv row := by
    unfold sv txts iv
    rw [List.map_map, List.map_map]
    refine List.map_congr_left fun u hu => ?_
    show SV.int (numV _) = _
    rw [numB_val (H.num u hu)]
  refine CallC.drop0' (σ := []) ([.list seen, .list (sv (Str.ofString "n" :: txts row)), .list (sv (txts row)), .junk, .list (iv row), .junk]) ?_ _ rfl (.bool _)
  refine CallC.def (f := .ret (.bool true)) (names := ["over", "under", "way", "turn"]) (loc := [("over", .int p.1), ("under", .int p.2), ("way", .int way), ("turn", .int turn)]) W F (fun vs h => by obtain ⟨a, b, c, d, rfl⟩ := list4 h; rfl) rfl rfl (by decide +kernel) (by decide +kernel) (by decide +kernel) rfl fun κ C => ?_
  clear F
  dsimp only at C
  have cw1 := cw.new (σ := [.list seen]) (.fix _) (by simp; exact .str _) sv_lt
  apply Exists.intro
  apply XSs.cons
  · walk_at "my s"
  apply XSs.cons (loc₁ := [("over", .int p.1), ("under", .int p.2), ("way", .int way), ("turn", .int turn), ("pile", .str pile), ("seen", .obj 0), ("row", .obj 4)]) (σ₁ := [.list seen, .list (sv (Str.ofString "n" :: txts row)), .list (sv (txts row)), .junk, .list (iv row)])
  · have C' : ∀ scope : Scope, Cx ⟨κ.name, scope, κ.cd, []⟩ scope.names [] := fun _ => ⟨rfl, rfl⟩
    refine compSX (σ := [.list seen, .list (sv (Str.ofString "n" :: txts row)), .list (sv (txts row))]) (i := 2) (xs := sv (txts row)) (nm := "word") (compPlain (fun _ => rfl) (by decide +kernel) rfl (by decide +kernel) (fun _ => rfl)) numOfV ?_ rfl (fun loc x σ h => ?_) (fun x hx σ => ?_) ?_ ?_ ?_ (fun _ _ => rfl) (fun _ _ => rfl)
    · rw [← hpick]
      walk_at "my e"
    · rcases h with rfl | ⟨v, rfl⟩
      · exact XA.var (C' _) rfl .new
      · exact XA.var (C' _) rfl .here
    · unfold sv txts at hx
      rw [List.map_map] at hx
      obtain ⟨u, hu, rfl⟩ := List.mem_map.mp hx
      show XE _ _ _ _ _ _ (.int (numV _)) _
      rw [numB_val (H.num u hu)]
      exact XE.call W (XE.gl W (C' _) rfl rfl rfl) (XL.cons (XE.var (C' _) rfl rfl rfl) XL.nil fun _ => rfl) (KeepSV.fn W (by decide)) (XK.of (c_num W (by (first | lia | omega)) (H.num u hu))) fun _ => rfl
    · unfold sv txts; simp [hrl]; (first | lia | omega)
    · rw [hmap]
      walk_at "my a"
    · intro env e1 e2
      have e3 : env.kindOf (Str.ofString "row") = some .local := by unfold Env.kindOf; rw [e1, C.names]; decide +kernel
      have e4 : env.blockKind = .function := by unfold Env.blockKind; rw [e2]; rfl
      unfold swapsWith
      dsimp only
      rw [e3, e4]
      rfl
  apply XSs.cons
  · walk_at "my s"
  have hrz : (iv row).length < 2 ^ 31 := by rw [iv_len, hrl]; exact Nat.lt_of_le_of_lt hN (by decide)
  apply XSs.cons
  · apply XS.for
    · walk_at "my e"
    · exact ⟨.range (by (first | lia | omega)) (by (first | lia | omega))⟩
    · refine loop_range (j := 5) (N := (iv row).length) (fun k => [("over", .int p.1), ("under", .int p.2), ("way", .int way), ("turn", .int turn), ("pile", .str pile), ("seen", .obj 0), ("row", .obj 4)])
        (fun k => [.list seen, .list (sv (Str.ofString "n" :: txts row)), .list (sv (txts row)), .junk, .list (iv row), .rangeIt k (((iv row).length : Int) - k)]) (fun k _ => rfl) (fun k hk => ?_) (iv row).length 0 (by simp)
      rw [iv_len] at hk
      have hu : row[k]? = some (row[k]'hk) := List.getElem?_eq_getElem hk
      generalize row[k]'hk = u at hu
      have hul := H.least k u hu
      have hui : (iv row)[((k : Int)).toNat]? = some (.int u) := by rw [Int.toNat_natCast]; unfold iv; rw [List.getElem?_map, hu]; rfl
      have hc := c_least W (D := D) (by (first | lia | omega)) (way := way) (last := (k : Int) + 1 == (((iv row).length : Nat) : Int)) (L := row.take k) (fun u hu => H.pos u (List.mem_of_mem_take hu))
      have hpk : pickL (iv row) none (some (k : Int)) none = iv (row.take k) := by
        rw [pick_head (by rw [iv_len]; (first | lia | omega))]
        unfold iv; rw [List.map_take]
      have hc2 := hc.list1 (i := 6) (σ₂ := [.list seen, .list (sv (Str.ofString "n" :: txts row)), .list (sv (txts row)), .junk, .list (iv row), .rangeIt ((k : Int) + 1) (((iv row).length : Int) - k - 1), .list (iv (row.take k))]) rfl iv_lt (.fix _) (RenVs.obj1 (i := 6) (xs := [.int way, .bool ((k : Int) + 1 == (((iv row).length : Nat) : Int))]) (by simp; exact ⟨.int _, .bool _⟩)) (.int _)
      rw [← hpk] at hc2
      have hil : (iv row).length ≤ sizeLine := by rw [iv_len, hrl]; exact Nat.le_trans hN (by decide)
      rw [← iv_len row] at hul
      refine ⟨_, _, [("k", .int k)], XA.var C rfl (by walk_at "my upd"), ?_⟩
      rw [show ((iv row).length : Int) - ((k + 1 : Nat) : Int) = ((iv row).length : Int) - k - 1 from by (first | lia | omega), show ((k + 1 : Nat) : Int) = (k : Int) + 1 from by (first | lia | omega)]
      clear hc
      apply XSs.cons
      · apply XS.drop (τ := [.list (pickL (iv row) none (some (k : Int)) none)])
        · apply XS.ifF
          · apply XT.cmp
            · walk_at "my e"
            · walk_at "my e"
            · exact XC.lt
            · rfl
            · exact decide_eq_false hul
          · exact XSs.nil
        · intro r h; cases h
        · intro x v h
          have := lookup_mem h
          simp only [List.cons_append, List.nil_append, List.mem_cons, List.not_mem_nil, or_false, Prod.mk.injEq] at this
          rcases this with ⟨_, rfl⟩ | ⟨_, rfl⟩ | ⟨_, rfl⟩ | ⟨_, rfl⟩ | ⟨_, rfl⟩ | ⟨_, rfl⟩ | ⟨_, rfl⟩ | ⟨_, rfl⟩
          · exact .int _
          · exact .int _
          · exact .int _
          · exact .int _
          · exact .str _
          · exact .obj (by simp)
          · exact .obj (by simp)
          · exact .int _
      · exact XSs.nil
    · exact fun _ _ => rfl
    · exact fun _ _ => rfl
  have cp := (c_product W (D := D) (by (first | lia | omega)) H.prod (fun u hu => (H.sum u hu).2.1)).list1 (i := 4) (σ₂ := [.list seen, .list (sv (Str.ofString "n" :: txts row)), .list (sv (txts row)), .junk, .list (iv row), .junk]) rfl iv_lt (.fix _) (RenVs.obj1 (i := 4) (xs := [.int 1]) (by simp; exact .int _)) (.int _)
  have cs := (c_sum W (D := D) (by (first | lia | omega)) H.ways H.sum).list1 (i := 4) (σ₂ := [.list seen, .list (sv (Str.ofString "n" :: txts row)), .list (sv (txts row)), .junk, .list (iv row), .junk]) rfl iv_lt (.fix _) (RenVs.obj1 (i := 4) (xs := [.int way, .int (prodL row 1)]) (by simp; exact ⟨.int _, .int _⟩)) (.int _)
  apply XSs.cons
  · walk_at "my s"
  have hz1 := H.szs.1
  have hz2 := H.szs.2.1
  have hz3 := H.szs.2.2
  have hz4 : Sz (prodL row 1) := by have := H.prod row.length; rwa [List.take_length] at this
  apply XSs.stop
  · apply XS.ret
    rw [show (SV.bool true) = SV.bool (sumL row way (prodL row 1) * p.2 == p.1 * prodL row 1) from by rw [H.eq]; simp]
    walk_at "my e"
  · intro h; cases h
end
section
variable {Z : Zt} {D : Nat} {σ σ' σ₂ : List SObj} {κ κ' : Ctx} {loc loc' loc₁ : Loc}

theorem Emb.snoc {es js : List Nat} {τ : List SObj} {o o₂ : SObj} {j : Nat} (e : Emb es τ σ js) (h1 : τ[j]? = some o₂) (h2 : RenO es o o₂) : Emb es τ (σ ++ [o]) (js ++ [j]) := by
  induction e with
  | nil => exact .cons h1 h2 .nil
  | cons x y _ ih => exact .cons x y ih
/-- the lexer's seven things, seven places on -/
noncomputable def csM : List (Str × Nat) := [("text", 8), ("place", 7)]
noncomputable def holdM (k : CloT) : List (Str × SV) := [("lineno", .int 1), ("instream", .none), ("whitespace", .str white0), ("pushback", .obj 11), ("read", .clos k csM)]
noncomputable def stM (k : CloT) (text W : Str) (p : Nat) (L : Int) : List SObj :=
  [.cell (some (.obj 9)), .cell (some (.str text)), .list [.int p], .dict (holdM k), .list [], .dict [("lineno", .int L), ("instream", .inst 159 10), ("whitespace", .str W), ("pushback", .obj 13)], .list []]
section
variable {a0 a1 a2 a3 a4 a5 a6 : SObj} {υ : List SObj} {k : CloT} {text white : Str} {p p' : Nat} {L L' : Int} {f : Value} {r : SV}
theorem stM_emb {es : List Nat} (he : ∀ i, i < 7 → es[i]? = some (7 + i)) : Emb es (a0 :: a1 :: a2 :: a3 :: a4 :: a5 :: a6 :: (stM k text white p L ++ υ)) (stL k text white p L) [7, 8, 9, 10, 11, 12, 13] := by
  have h2 := he 2 (by decide)
  have h3 := he 3 (by decide)
  have h4 := he 4 (by decide)
  have h6 := he 6 (by decide)
  have h0 := he 0 (by decide)
  have h1 := he 1 (by decide)
  unfold stL stM
  refine .cons rfl (.cell (.obj h2)) (.cons rfl (.cell (.str _)) (.cons rfl (.list (.cons (.int _) .nil)) (.cons rfl (.dict ?_) (.cons rfl (.list .nil) (.cons rfl (.dict ?_) (.cons rfl (.list .nil) .nil))))))
  · refine .cons (.int _) (.cons .none (.cons (.str _) (.cons (.obj h4) (.cons (.clos rfl fun i x y e1 e2 => ?_) .nil))))
    match i, e1, e2 with
    | 0, e1, e2 => cases e1; cases e2; exact ⟨rfl, h1⟩
    | 1, e1, e2 => cases e1; cases e2; exact ⟨rfl, h0⟩
  · exact .cons (.int _) (.cons (.inst h3) (.cons (.str _) (.cons (.obj h6) .nil)))
theorem stM_rest {X Y : List SObj} (hX : X.length = 7) (hY : Y.length = 7) : ∀ j, j ∉ [7, 8, 9, 10, 11, 12, 13] → (a0 :: a1 :: a2 :: a3 :: a4 :: a5 :: a6 :: (X ++ υ))[j]? = (a0 :: a1 :: a2 :: a3 :: a4 :: a5 :: a6 :: (Y ++ υ))[j]? := by
  intro j hn
  match j, hn with
  | 0, _ => rfl
  | 1, _ => rfl
  | 2, _ => rfl
  | 3, _ => rfl
  | 4, _ => rfl
  | 5, _ => rfl
  | 6, _ => rfl
  | j + 7, hn =>
    simp only [List.getElem?_cons_succ]
    have : 7 ≤ j := by simp at hn; (first | lia | omega)
    rw [List.getElem?_append_right (by (first | lia | omega)), List.getElem?_append_right (by (first | lia | omega)), hX, hY]
theorem seven (i : Nat) (h : i < 7) : ([7, 8, 9, 10, 11, 12, 13] : List Nat)[i]? = some (7 + i) := by
  revert i; decide
theorem up8 (h : CallC Z D (.fix f) [.inst 159 5] (stL k text white p L) r (stL k text white p' L')) (hr : SV.Lt 0 r) :
    CallC Z D (.fix f) [.inst 159 12] (a0 :: a1 :: a2 :: a3 :: a4 :: a5 :: a6 :: (stM k text white p L ++ υ)) r (a0 :: a1 :: a2 :: a3 :: a4 :: a5 :: a6 :: (stM k text white p' L' ++ υ)) := by
  have e0 : (a0 :: a1 :: a2 :: a3 :: a4 :: a5 :: a6 :: (stM k text white p' L' ++ υ)).length - (a0 :: a1 :: a2 :: a3 :: a4 :: a5 :: a6 :: (stM k text white p L ++ υ)).length = 0 := by simp [stM]
  refine h.frame (es := [7, 8, 9, 10, 11, 12, 13]) (by decide) (stM_emb seven) (.fix _) (.cons (.inst rfl) .nil) (by simp [stM]) ?_ (fun j _ hn => stM_rest rfl rfl j hn) (.closed hr)
  rw [e0]
  exact stM_emb seven
theorem up8new {M : List SV} (h : CallC Z D (.fix f) [.inst 159 5] (stL k text white p L) (.obj 7) (stL k text white p' L' ++ [.list M])) (hM : ∀ x ∈ M, SV.Lt 0 x) :
    CallC Z D (.fix f) [.inst 159 12] (a0 :: a1 :: a2 :: a3 :: a4 :: a5 :: a6 :: (stM k text white p L ++ υ)) (.obj (14 + υ.length)) (a0 :: a1 :: a2 :: a3 :: a4 :: a5 :: a6 :: (stM k text white p' L' ++ (υ ++ [.list M]))) := by
  have e1 : (a0 :: a1 :: a2 :: a3 :: a4 :: a5 :: a6 :: (stM k text white p L ++ υ)).length = 14 + υ.length := by simp [stM]; (first | lia | omega)
  have e2 : (a0 :: a1 :: a2 :: a3 :: a4 :: a5 :: a6 :: (stM k text white p' L' ++ (υ ++ [SObj.list M]))).length = 14 + υ.length + 1 := by simp [stM]; (first | lia | omega)
  have e3 : ([7, 8, 9, 10, 11, 12, 13] : List Nat) ++ List.range' (14 + υ.length) (14 + υ.length + 1 - (14 + υ.length)) = [7, 8, 9, 10, 11, 12, 13, 14 + υ.length] := by
    rw [show 14 + υ.length + 1 - (14 + υ.length) = 1 from by (first | lia | omega)]; rfl
  refine h.frame (es := [7, 8, 9, 10, 11, 12, 13]) (by decide) (stM_emb seven) (.fix _) (.cons (.inst rfl) .nil) (by rw [e1, e2]; (first | lia | omega)) ?_ (fun j hj hn => ?_) ?_
  · rw [e1, e2, e3]
    have hg : ∀ i, i < 7 → ([7, 8, 9, 10, 11, 12, 13, 14 + υ.length] : List Nat)[i]? = some (7 + i) := fun i hi => by
      have := seven i hi
      rw [show ([7, 8, 9, 10, 11, 12, 13, 14 + υ.length] : List Nat) = [7, 8, 9, 10, 11, 12, 13] ++ [14 + υ.length] from rfl, List.getElem?_append_left (by simpa using hi)]
      exact this
    refine Emb.snoc (stM_emb hg) ?_ (.list (.closed hM))
    have e4 : (a0 :: a1 :: a2 :: a3 :: a4 :: a5 :: a6 :: (stM k text white p' L' ++ (υ ++ [SObj.list M]))) = (a0 :: a1 :: a2 :: a3 :: a4 :: a5 :: a6 :: (stM k text white p' L' ++ υ)) ++ [SObj.list M] := by simp
    rw [e4, List.getElem?_append_right (by simp [stM]; (first | lia | omega))]
    simp only [stM, List.length_cons, List.length_append, List.length_nil]
    rw [show 14 + υ.length - (0 + 1 + 1 + 1 + 1 + 1 + 1 + 1 + υ.length + 1 + 1 + 1 + 1 + 1 + 1 + 1) = 0 from by (first | lia | omega)]
    rfl
  · rw [e1] at hj
    rw [show (a0 :: a1 :: a2 :: a3 :: a4 :: a5 :: a6 :: (stM k text white p' L' ++ (υ ++ [SObj.list M]))) = (a0 :: a1 :: a2 :: a3 :: a4 :: a5 :: a6 :: (stM k text white p' L' ++ υ)) ++ [SObj.list M] from by simp, List.getElem?_append_left (by simp [stM]; (first | lia | omega))]
    exact stM_rest rfl rfl j hn
  · rw [e1, e2, e3]
    exact .obj rfl
theorem mk8 {args : List SV} (h : CallC Z D (.fix f) args [] (.inst 159 5) (stL k text white p L)) (ha : ∀ x ∈ args, SV.Lt 0 x) :
    CallC Z D (.fix f) args [a0, a1, a2, a3, a4, a5, a6] (.inst 159 12) (a0 :: a1 :: a2 :: a3 :: a4 :: a5 :: a6 :: (stM k text white p L ++ [])) := by
  have e3 : ([] : List Nat) ++ List.range' [a0, a1, a2, a3, a4, a5, a6].length ((a0 :: a1 :: a2 :: a3 :: a4 :: a5 :: a6 :: (stM k text white p L ++ [])).length - [a0, a1, a2, a3, a4, a5, a6].length) = [7, 8, 9, 10, 11, 12, 13] := rfl
  refine h.frame .nil .nil (.fix _) (.closed ha) (by simp) ?_ (fun j hj _ => ?_) ?_
  · rw [e3]; exact stM_emb seven
  · match j, hj with
    | 0, _ => rfl
    | 1, _ => rfl
    | 2, _ => rfl
    | 3, _ => rfl
    | 4, _ => rfl
    | 5, _ => rfl
    | 6, _ => rfl
    | j + 7, hj => simp at hj; (first | lia | omega)
  · rw [e3]; exact .inst rfl
end
end
section
variable {Z : Zt} {D : Nat} {σ σ' σ₂ : List SObj} {κ κ' : Ctx} {loc loc' loc₁ : Loc}

noncomputable def firstC : List Int := [2, 5, 1544920, 0, 4, 3, 8, 999]
noncomputable def menuL : List SV := [.str (Str.ofString "n"), .str (Str.ofString "7"), .str (Str.ofString "n.o"), .str (Str.ofString "7.n")]
noncomputable def whiteL : Str := Str.ofString "\n\t\r "

structure LawOk (script : List Int) (c0 c1 c2 c3 c4 c5 c6 c7 : Int) (r1 r2 : List Int) (text name : Str) (q2 q3 : Nat × Int) (turn factor over under : Int) (M1 M2 N1 N2 : Nat) (w1 w2 : List Int) : Prop where
  len : script.length ≤ 63
  cells : cellsP script firstC script.length = [c0, c1, c2, c3, c4, c5, c6, c7]
  row1 : rowL (-1) c0 = r1
  row2 : rowL 1 c1 = r2
  big1 : ∀ k, k ≤ 3 → ∀ u ∈ (rowP (-1) c0 k).2, 0 ≤ u ∧ u.natAbs < 2 ^ 999
  big2 : ∀ k, k ≤ 3 → ∀ u ∈ (rowP 1 c1 k).2, 0 ≤ u ∧ u.natAbs < 2 ^ 999
  len1 : ∀ k, k ≤ 3 → (rowP (-1) c0 k).2.length ≤ 3
  len2 : ∀ k, k ≤ 3 → (rowP 1 c1 k).2.length ≤ 3
  word : ∀ u ∈ r1 ++ r2, Sz u ∧ WordOk (Str.ofString (toString u))
  fmt : ∀ u ∈ r1 ++ r2, ∀ m, (fmtW m (Str.ofString (toString u))).length ≤ 1000
  l1 : r1.length ≤ 100
  l2 : r2.length ≤ 100
  file : fileT c2 r1 r2 = text
  tlen : text.length ≤ 99999
  u1 : ∀ i, i < r1.length → numB (wsT whiteL text (0, 1) i) (r1.getD i 0) = true ∧ wsT whiteL text (0, 1) i ≠ Str.ofString "."
  u1e : wsT whiteL text (0, 1) r1.length = Str.ofString "."
  eq2 : plT whiteL text (0, 1) (r1.length + 1) = q2
  u2 : ∀ i, i < r2.length → numB (wsT whiteL text q2 i) (r2.getD i 0) = true ∧ wsT whiteL text q2 i ≠ Str.ofString "."
  u2e : wsT whiteL text q2 r2.length = Str.ofString "."
  eq3 : plT whiteL text q2 (r2.length + 1) = q3
  last : wsT whiteL text q3 0 = Str.ofString ""
  line : (plT whiteL text q3 1).2 = 1 + Txt.count text (Str.ofString "\n")
  eName : menuL[(c3.fmod 4).toNat]? = some (.str name)
  z3 : Sz (c3.fdiv 4)
  eTurn : 1 - 2 * (c3.fdiv 4).fmod 2 = turn
  eFactor : 1 + (c4.natAbs : Int).fmod 97 = factor
  zg : Sz (1 + (c7.natAbs : Int))
  eOver : (1 + c5.fmod 4) * (1 + (c7.natAbs : Int)) = over
  eUnder : over + (1 + c6.fmod 24) * (1 + (c7.natAbs : Int)) = under
  cb1 : CbOk name r1 (-1) factor turn M1
  cb2 : CbOk name r2 1 factor (-turn) M2
  hr1 : HrOk (over, under) (-1) (-turn) N1 w1
  hr2 : HrOk (over, under) 1 turn N2 w2

theorem range_getD (r : List Int) : (List.range r.length).map (fun i => r.getD i 0) = r := by
  apply List.ext_getElem?
  intro i
  by_cases h : i < r.length
  · rw [List.getElem?_map, List.getElem?_range h, Option.map_some, List.getD_eq_getElem?_getD, List.getElem?_eq_getElem h]; rfl
  · rw [List.getElem?_eq_none (by simp; (first | lia | omega)), List.getElem?_eq_none (by (first | lia | omega))]
theorem pick_63 {xs : List SV} (h : xs.length ≤ 63) : pickL xs none (some (63 : Int)) none = xs := by
  have e : sliceBounds none (some (63 : Int)) none xs.length = (((0 : Nat) : Int), (xs.length : Int), 1) := by
    simp only [sliceBounds, Option.getD_none]
    have h2 : ¬ ((63 : Int) < 0) := by (first | lia | omega)
    simp only [h2, if_false, show (1 : Int) > 0 by decide, if_true]
    congr 1
    congr 1; (first | lia | omega)
  unfold pickL
  rw [e]
  simp only [sliceRange_one, pickRun]
  simp

theorem ints_rep {ρ : List Addr} {h : Heap} {vs : List Value} {ns : List Int} (hI : IntsAre vs ns) : RepVs ρ h (iv ns) vs := by
  induction hI with
  | nil => exact ⟨rfl, fun i x v e => by simp [iv] at e⟩
  | cons n t _ ih =>
    refine ⟨by have := ih.1; unfold iv at this ⊢; simp at this ⊢; exact this, fun i x v e1 e2 => ?_⟩
    cases i with
    | zero => simp [iv] at e1 e2; subst e1; subst e2; exact .int n t
    | succ i => exact ih.2 i x v (by simpa [iv] using e1) (by simpa using e2)
theorem XG.argSlice {a : Addr} {vs : List Value} {ns : List Int} {lo hi st : Option Int} (hL : Z.H0.IsList a vs.toArray) (hI : IntsAre vs ns) (h : ns.length ≤ sizeLine) (h0 : st ≠ some 0) : XG Z D (.fix (.ref a)) (.slice lo hi st) σ (.obj σ.length) (σ ++ [.list (pickL (iv ns) lo hi st)]) := by
  refine ⟨fun A s ρ v u ok r1 r2 => ?_⟩
  apply RepV.elim r1
  have hr : RepVs ρ s.heap (iv ns) vs := ints_rep hI
  apply RepV.elim r2; intro _ _ _ _ e2 p1 p2 p3
  · obtain ⟨o, q1, q2, q3⟩ := hL
    have hlen : vs.length = ns.length := by rw [← hr.1, iv_len]
    refine wpAny_getItem_list_slice ⟨o, ok.rel.base _ _ q1, q2, q3⟩ ⟨_, e2, rfl, rfl⟩ p1 p2 p3 h0 ?_ (by simp [hlen]; exact h)
    refine Post.push (o := .list (pickL (iv ns) lo hi st)) ok _ (get_size_none _) (fun b o q => Heap.get?_push_of_some _ q) (fun M => ?_) fun q M => .obj q
    have hr' := (hr.mono M).pick (sliceRange (sliceBounds lo hi st vs.length).1 (sliceBounds lo hi st vs.length).2.1 (sliceBounds lo hi st vs.length).2.2)
    have e3 : slicePick vs.toArray lo hi st = ((sliceRange (sliceBounds lo hi st vs.length).1 (sliceBounds lo hi st vs.length).2.1 (sliceBounds lo hi st vs.length).2.2).filterMap fun i => vs[i]?).toArray := by
      unfold slicePick
      simp
    have e4 : pickL (iv ns) lo hi st = (sliceRange (sliceBounds lo hi st vs.length).1 (sliceBounds lo hi st vs.length).2.1 (sliceBounds lo hi st vs.length).2.2).filterMap fun i => (iv ns)[i]? := by
      unfold pickL
      rw [hr.1]
    rw [e4]
    rw [e3] at hr' ⊢
    exact .list (n := 0) (Heap.get?_push_size _ rfl) hr'

theorem XE.subA {value slice : Expr} {pos : Pos} {a : Addr} {vs : List Value} {b r : SV} {σ₁ σ₂ σ₃ : List SObj} (hL : Z.H0.IsList a vs.toArray) (h1 : XE Z D κ loc σ value (.fix (.ref a)) σ₁) (h2 : XE Z D κ loc σ₁ slice b σ₂) (h3 : XG Z D (.fix (.ref a)) b σ₂ r σ₃)
    (hs : ∀ o i, ∃ vs, subscripted slice false o i = operate vs (getItem o i)) : XE Z D κ loc σ (.Subscript value slice pos) r σ₃ :=
  ⟨.sub h1.h h2.h h3.h (fun s ρ v rel r => by
    apply RepV.elim r
    obtain ⟨o, q1, q2, _⟩ := hL
    exact ⟨o, rel.base _ _ q1, q2⟩) list_getitem_lookup hs⟩

theorem told_loop (W : W39 Z) (hD : 8 ≤ D) {a1 a2 a3 a4 a5 : SObj} {k : CloT} {text white : Str} {q1 q2 q3 : Nat × Int} {M1 M2 : List Int} {p1 p2 p3 p4 : Pos}
    (C : Cx κ' [(Str.ofString ".0", .local), (Str.ofString "row", .local), (Str.ofString "_law_units", .globalImplicit), (Str.ofString "lexer", .cell)] [("lexer", 0)])
    (h1 : ∀ (b1 b7 : SObj) (υ : List SObj), CallC Z D (.fix (.ref 191)) [.inst 159 12] (b1 :: a1 :: a2 :: a3 :: a4 :: a5 :: b7 :: (stM k text white q1.1 q1.2 ++ υ)) (.obj (14 + υ.length)) (b1 :: a1 :: a2 :: a3 :: a4 :: a5 :: b7 :: (stM k text white q2.1 q2.2 ++ (υ ++ [.list (iv M1)]))))
    (h2 : ∀ (b1 b7 : SObj) (υ : List SObj), CallC Z D (.fix (.ref 191)) [.inst 159 12] (b1 :: a1 :: a2 :: a3 :: a4 :: a5 :: b7 :: (stM k text white q2.1 q2.2 ++ υ)) (.obj (14 + υ.length)) (b1 :: a1 :: a2 :: a3 :: a4 :: a5 :: b7 :: (stM k text white q3.1 q3.2 ++ (υ ++ [.list (iv M2)])))) :
    LoopC Z D κ' (.Name "row" p1) (.Call (.Name "_law_units" p2) [.Name "lexer" p3] [] p4) (.obj 14) 15 2 []
      (.cell (some (.inst 159 12)) :: a1 :: a2 :: a3 :: a4 :: a5 :: .list [.obj 4, .obj 5] :: (stM k text white q1.1 q1.2 ++ [.listIt 6 0, .list []])) []
      (.cell (some (.inst 159 12)) :: a1 :: a2 :: a3 :: a4 :: a5 :: .list [.obj 4, .obj 5] :: (stM k text white q3.1 q3.2 ++ [.junk, .list [.obj 16, .obj 17], .list (iv M1), .list (iv M2)])) [.obj 16, .obj 17] := by
  refine .turn (Nxt.list (x := .obj 4) rfl rfl rfl) (XA.var C rfl .new).h (XE.call W (XE.gl W C rfl rfl rfl) (XL.cons (XE.cell C rfl rfl rfl rfl) XL.nil fun _ => rfl) (KeepSV.fn W (by decide)) (XK.of (h1 _ _ [.listIt 6 1, .list []])) fun _ => rfl).h rfl (by simp) ?_
  refine .turn (Nxt.list (x := .obj 5) rfl rfl rfl) (XA.var C rfl .here).h (XE.call W (XE.gl W C rfl rfl rfl) (XL.cons (XE.cell C rfl rfl rfl rfl) XL.nil fun _ => rfl) (KeepSV.fn W (by decide)) (XK.of (h2 _ _ [.listIt 6 2, .list [.obj 16], .list (iv M1)])) fun _ => rfl).h rfl (Nat.le_of_ble_eq_true rfl) ?_
  exact .stop (Nxt.listEnd (σ := _) (i := 6) (xs := [.obj 4, .obj 5]) (j := 14) rfl rfl rfl)

theorem same_iv {M : List Int} {n : Nat} : ∀ (i : Nat) (x y : SV), (iv M)[i]? = some x → (iv M)[i]? = some y → Same σ n x y := fun i x y e1 e2 => by
  rw [e1] at e2; cases e2
  obtain ⟨u, rfl, _⟩ := iv_get e1
  exact .int u

theorem c_law (W : W39 Z) (hD : 20 ≤ D) {script : List Int} {a : Addr} {vs : List Value} (hLs : Z.H0.IsList a vs.toArray) (hIs : IntsAre vs script) {c0 c1 c2 c3 c4 c5 c6 c7 : Int} {r1 r2 : List Int} {text name : Str} {q2 q3 : Nat × Int} {turn factor over under : Int} {M1 M2 N1 N2 : Nat} {w1 w2 : List Int} (H : LawOk script c0 c1 c2 c3 c4 c5 c6 c7 r1 r2 text name q2 q3 turn factor over under M1 M2 N1 N2 w1 w2) :
    ∃ σ', CallC Z D (.fix (.ref 260)) [.fix (.ref a)] [] (.bool true) σ' := by
  obtain ⟨D, rfl⟩ : ∃ k, D = k + 1 := ⟨D - 1, by (first | lia | omega)⟩
  have F := isFn_of W (a := 260) rfl rfl rfl rfl rfl rfl rfl rfl rfl rfl rfl
  obtain ⟨k, hk, hr⟩ := c_reader W (D := D) (text := text) (white := whiteL) (by (first | lia | omega)) (by have := H.tlen; (first | lia | omega))
  have hcut : pickL (iv script) none (some (63 : Int)) none = iv script := pick_63 (by rw [iv_len]; exact H.len)
  have hcl : (iv script).length ≤ sizeLine := by rw [iv_len]; exact Nat.le_trans H.len (by decide)
  have cc : ∀ cut, cut = iv script → CallC Z D (.fix (.ref 170)) [.obj 1, .obj 2] [.cell none, .list cut, .list (iv firstC)] (.obj 3) [.cell none, .list cut, .list (iv firstC), .list (iv [c0, c1, c2, c3, c4, c5, c6, c7])] := by
    intro cut e
    subst e
    have := c_cells W (D := D) (script := script) (first := firstC) (by (first | lia | omega)) rfl H.len
    rw [H.cells] at this
    refine this.frame (es := [1, 2]) (by decide) (.cons rfl (.list (.closed iv_lt)) (.cons rfl (.list (.closed iv_lt)) .nil)) (.fix _) (.cons (.obj rfl) (.cons (.obj rfl) .nil)) (by simp) ?_ (fun j hj _ => ?_) (.obj rfl)
    · exact .cons rfl (.list (.closed iv_lt)) (.cons rfl (.list (.closed iv_lt)) (.cons rfl (.list (.closed iv_lt)) .nil))
    · match j, hj with
      | 0, _ => rfl
      | 1, _ => rfl
      | 2, _ => rfl
      | j + 3, hj => simp at hj; (first | lia | omega)
  obtain ⟨cut, ecut⟩ : ∃ x, x = pickL (iv script) none (some (63 : Int)) none := ⟨_, rfl⟩
  replace cc := cc cut (by rw [ecut, hcut])
  have d1 := (c_row W (D := D) (by (first | lia | omega)) H.big1 H.len1).new (σ := [.cell none, .list cut, .list (iv firstC), .list (iv [c0, c1, c2, c3, c4, c5, c6, c7])]) (.fix _) (by simp; exact ⟨.int _, .int _⟩) iv_lt
  have d2 := (c_row W (D := D) (by (first | lia | omega)) H.big2 H.len2).new (σ := [.cell none, .list cut, .list (iv firstC), .list (iv [c0, c1, c2, c3, c4, c5, c6, c7]), .list (iv r1)]) (.fix _) (by simp; exact ⟨.int _, .int _⟩) iv_lt
  rw [H.row1] at d1
  rw [H.row2] at d2
  have cf := (c_file W (D := D) (cell := c2) (by (first | lia | omega)) H.word H.fmt H.l1 H.l2).at (σ₂ := [.cell none, .list cut, .list (iv firstC), .list (iv [c0, c1, c2, c3, c4, c5, c6, c7]), .list (iv r1), .list (iv r2), .list [.obj 4, .obj 5]]) [6, 4, 5] (by decide) (.cons rfl (.list (.cons (.obj rfl) (.cons (.obj rfl) .nil))) (.cons rfl (.list (.closed iv_lt)) (.cons rfl (.list (.closed iv_lt)) .nil))) (.fix _) (.cons (.obj rfl) (.cons (.int _) .nil)) (.str _)
  rw [H.file] at cf
  have mk := mk8 (a0 := .cell none) (a1 := .list cut) (a2 := .list (iv firstC)) (a3 := .list (iv [c0, c1, c2, c3, c4, c5, c6, c7])) (a4 := .list (iv r1)) (a5 := .list (iv r2)) (a6 := .list [.obj 4, .obj 5]) hr (by simp; exact ⟨.str _, .str _⟩)
  have u1 := c_units W (D := D) (by (first | lia | omega)) hk H.tlen (q := (0, 1)) (U := fun i => r1.getD i 0) (n := r1.length) (by have := H.l1; (first | lia | omega)) H.u1 H.u1e
  have u2 := c_units W (D := D) (by (first | lia | omega)) hk H.tlen (q := q2) (U := fun i => r2.getD i 0) (n := r2.length) (by have := H.l2; (first | lia | omega)) H.u2 H.u2e
  rw [range_getD, H.eq2] at u1
  rw [range_getD, H.eq3] at u2
  have g := c_get W (D := D) (by (first | lia | omega)) hk (white := whiteL) H.tlen q3 0 []
  rw [List.append_nil, List.append_nil, H.last] at g
  obtain ⟨q4, hq4⟩ : ∃ x, x = plT whiteL text q3 1 := ⟨_, rfl⟩
  have hline := H.line
  rw [show (0 + 1) = 1 from rfl, ← hq4] at g
  rw [← hq4] at hline
  obtain ⟨p4, L4⟩ := q4
  dsimp only at hline
  subst hline
  have cb1 := (c_comes_back W (D := D) (by (first | lia | omega)) H.cb1).list1 (i := 16) (σ₂ := .cell (some (.inst 159 12)) :: .list cut :: .list (iv firstC) :: .list (iv [c0, c1, c2, c3, c4, c5, c6, c7]) :: .list (iv r1) :: .list (iv r2) :: .list [.obj 4, .obj 5] :: (stM k text whiteL p4 (1 + Txt.count text (Str.ofString "\n")) ++ [.junk, .list [.obj 16, .obj 17], .list (iv r1), .list (iv r2), .list [.str (Str.ofString ""), .int (1 + Txt.count text (Str.ofString "\n"))], .list [.str (Str.ofString ""), .int (1 + Txt.count text (Str.ofString "\n"))], .list menuL]))
    rfl iv_lt (.fix _) (args₂ := [.str name, .obj 16, .int (-1), .int factor, .int turn]) (.cons (.str _) (.cons (.obj rfl) (.cons (.int _) (.cons (.int _) (.cons (.int _) .nil))))) (.bool _)
  have cb2 := (c_comes_back W (D := D) (by (first | lia | omega)) H.cb2).list1 (i := 17) (σ₂ := .cell (some (.inst 159 12)) :: .list cut :: .list (iv firstC) :: .list (iv [c0, c1, c2, c3, c4, c5, c6, c7]) :: .list (iv r1) :: .list (iv r2) :: .list [.obj 4, .obj 5] :: (stM k text whiteL p4 (1 + Txt.count text (Str.ofString "\n")) ++ [.junk, .list [.obj 16, .obj 17], .list (iv r1), .list (iv r2), .list [.str (Str.ofString ""), .int (1 + Txt.count text (Str.ofString "\n"))], .list [.str (Str.ofString ""), .int (1 + Txt.count text (Str.ofString "\n"))], .list menuL]))
    rfl iv_lt (.fix _) (args₂ := [.str name, .obj 17, .int 1, .int factor, .int (-turn)]) (.cons (.str _) (.cons (.obj rfl) (.cons (.int _) (.cons (.int _) (.cons (.int _) .nil))))) (.bool _)
  have hr1 := fun σ => c_has_a_row (σ := σ) W (D := D) (by (first | lia | omega)) H.hr1
  have hr2 := fun σ => c_has_a_row (σ := σ) W (D := D) (by (first | lia | omega)) H.hr2
  dsimp only at hr1 hr2
  have key : ∃ σ', CallC Z (D + 1) (.fix (.ref 260)) [.fix (.ref a)] [] (retOf (.ret (.bool true))) σ' ∧ True := by
    refine CallC.defE (P := fun _ => True) (f := .ret (.bool true)) (names := ["script"]) (cn := [("lexer", 0)]) (loc := [("script", .fix (.ref a))]) (cs := [.cell none]) W F (fun vs h => by obtain ⟨a, rfl⟩ := list1 h; rfl) rfl rfl (fun m => by rfl) (by decide +kernel) (by decide +kernel) (by rfl) (by rfl) fun κ C cn kc => ?_
    clear F
    dsimp only at C cn kc
    replace C : Cx κ _ [(Str.ofString "lexer", 0)] := C
    have hzg := H.zg
    obtain ⟨grow, egrow⟩ : ∃ x, x = 1 + (c7.natAbs : Int) := ⟨_, rfl⟩
    have eo := H.eOver
    have eu := H.eUnder
    rw [← egrow] at hzg eo eu
    apply Exists.intro
    refine ⟨.cell (some (.inst 159 12)) :: .list cut :: .list (iv firstC) :: .list (iv [c0, c1, c2, c3, c4, c5, c6, c7]) :: .list (iv r1) :: .list (iv r2) :: .list [.obj 4, .obj 5] :: (stM k text whiteL p4 (1 + Txt.count text (Str.ofString "\n")) ++ [.junk, .list [.obj 16, .obj 17], .list (iv r1), .list (iv r2), .list [.str (Str.ofString ""), .int (1 + Txt.count text (Str.ofString "\n"))], .list [.str (Str.ofString ""), .int (1 + Txt.count text (Str.ofString "\n"))], .list menuL]), ?_, trivial⟩
    apply XSs.cons (loc₁ := [("script", .fix (.ref a)), ("cells", .obj 3)]) (σ₁ := [.cell none, .list cut, .list (iv firstC), .list (iv [c0, c1, c2, c3, c4, c5, c6, c7])])
    · subst ecut
      have gs := fun σ => XG.argSlice (Z := Z) (D := D) (σ := σ) (lo := none) (hi := some 63) (st := none) hLs hIs (by rw [← iv_len]; exact hcl) (by decide)
      have gs := gs [.cell none]
      apply XS.assign
      · apply XE.call
        · assumption
        · walk_at "my e"
        · apply XL.cons
          · apply XE.subA hLs
            · walk_at "my e"
            · walk_at "my e"
            · exact gs
            · exact fun _ _ => ⟨_, rfl⟩
          · apply XL.cons
            · walk_at "my e"
            · exact XL.nil
            · exact fun _ => rfl
          · exact fun _ => rfl
        · walk_at "my keep"
        · exact XK.of cc
        · exact fun _ => rfl
      · walk_at "my a"
      · exact fun _ => rfl
      · exact fun _ => rfl
      · exact fun _ => rfl
    apply XSs.cons (loc₁ := [("script", .fix (.ref a)), ("cells", .obj 3), ("rows", .obj 6)]) (σ₁ := [.cell none, .list cut, .list (iv firstC), .list (iv [c0, c1, c2, c3, c4, c5, c6, c7]), .list (iv r1), .list (iv r2), .list [.obj 4, .obj 5]])
    · walk_at "my s"
    apply XSs.cons (loc₁ := [("script", .fix (.ref a)), ("cells", .obj 3), ("rows", .obj 6), ("text", .str text)]) (σ₁ := [.cell none, .list cut, .list (iv firstC), .list (iv [c0, c1, c2, c3, c4, c5, c6, c7]), .list (iv r1), .list (iv r2), .list [.obj 4, .obj 5]])
    · walk_at "my s"
    apply XSs.cons (loc₁ := [("script", .fix (.ref a)), ("cells", .obj 3), ("rows", .obj 6), ("text", .str text)]) (σ₁ := .cell (some (.inst 159 12)) :: .list cut :: .list (iv firstC) :: .list (iv [c0, c1, c2, c3, c4, c5, c6, c7]) :: .list (iv r1) :: .list (iv r2) :: .list [.obj 4, .obj 5] :: (stM k text whiteL 0 1 ++ []))
    · apply XS.assign
      · apply XE.call
        · assumption
        · walk_at "my e"
        · apply XL.cons
          · walk_at "my e"
          · apply XL.cons
            · walk_at "my e"
            · exact XL.nil
            · exact fun _ => rfl
          · exact fun _ => rfl
        · walk_at "my keep"
        · exact XK.of mk
        · exact fun _ => rfl
      · exact XA.cell (i := 0) (y₀ := none) C rfl rfl rfl
      · exact fun _ => rfl
      · exact fun _ => rfl
      · exact fun _ => rfl
    apply XSs.cons (loc₁ := [("script", .fix (.ref a)), ("cells", .obj 3), ("rows", .obj 6), ("text", .str text), ("told", .obj 15)]) (σ₁ := .cell (some (.inst 159 12)) :: .list cut :: .list (iv firstC) :: .list (iv [c0, c1, c2, c3, c4, c5, c6, c7]) :: .list (iv r1) :: .list (iv r2) :: .list [.obj 4, .obj 5] :: (stM k text whiteL q3.1 q3.2 ++ [.junk, .list [.obj 16, .obj 17], .list (iv r1), .list (iv r2)]))
    · refine ⟨fun A s ρ env ok fr => ?_⟩
      have hkk := fr.kind
      have K : CompOk κ ⟨κ.name, ⟨.function, [(Str.ofString ".0", .local), (Str.ofString "row", .local), (Str.ofString "_law_units", .globalImplicit), (Str.ofString "lexer", .cell)], false, false, []⟩, κ.cd, [(Str.ofString "lexer", 0)]⟩
          ⟨.function, [(Str.ofString ".0", .local), (Str.ofString "row", .local), (Str.ofString "_law_units", .globalImplicit), (Str.ofString "lexer", .free)], false, false, []⟩ := by
        refine ⟨?_, ?_, by decide +kernel, rfl, by decide +kernel, ?_, rfl, rfl⟩
        · intro env ρ e1 e2
          rw [C.cells] at e2
          obtain ⟨⟩ := env
          cases e2
          rfl
        · intro x hx
          rw [C.cells]
          exact ⟨x, hx, rfl⟩
        · intro env e
          have e3 : env.kindOf (Str.ofString "lexer") = some .cell := by unfold Env.kindOf; rw [e, C.names]; decide +kernel
          have e4 : env.scope.kind = .function := by rw [e]; exact hkk
          unfold relabel
          dsimp only [List.map]
          rw [e3, e4]
          rfl
      have l0 := told_loop W (κ' := ⟨κ.name, ⟨.function, [(Str.ofString ".0", .local), (Str.ofString "row", .local), (Str.ofString "_law_units", .globalImplicit), (Str.ofString "lexer", .cell)], false, false, []⟩, κ.cd, [(Str.ofString "lexer", 0)]⟩) (D := D) (by (first | lia | omega)) (k := k) (text := text) (white := whiteL) (q1 := (0, 1)) (q2 := q2) (q3 := q3) (M1 := r1) (M2 := r2)
        (a1 := .list cut) (a2 := .list (iv firstC)) (a3 := .list (iv [c0, c1, c2, c3, c4, c5, c6, c7])) (a4 := .list (iv r1)) (a5 := .list (iv r2)) (p1 := ⟨324, 34, 324, 37⟩) (p2 := ⟨324, 12, 324, 22⟩) (p3 := ⟨324, 23, 324, 28⟩) (p4 := ⟨324, 12, 324, 29⟩) ⟨rfl, rfl⟩ (fun b1 b7 υ => up8new u1 iv_lt) (fun b1 b7 υ => up8new u2 iv_lt)
      have i0 : XE Z D κ [("script", .fix (.ref a)), ("cells", .obj 3), ("rows", .obj 6), ("text", .str text)] (.cell (some (.inst 159 12)) :: .list cut :: .list (iv firstC) :: .list (iv [c0, c1, c2, c3, c4, c5, c6, c7]) :: .list (iv r1) :: .list (iv r2) :: .list [.obj 4, .obj 5] :: (stM k text whiteL 0 1 ++ [])) (.Name "rows" ⟨324, 41, 324, 45⟩) (.obj 6) (.cell (some (.inst 159 12)) :: .list cut :: .list (iv firstC) :: .list (iv [c0, c1, c2, c3, c4, c5, c6, c7]) :: .list (iv r1) :: .list (iv r2) :: .list [.obj 4, .obj 5] :: (stM k text whiteL 0 1 ++ [])) := by walk_at "my e"
      have i1 := Itr.list (Z := Z) (D := D) (σ := .cell (some (.inst 159 12)) :: .list cut :: .list (iv firstC) :: .list (iv [c0, c1, c2, c3, c4, c5, c6, c7]) :: .list (iv r1) :: .list (iv r2) :: .list [.obj 4, .obj 5] :: (stM k text whiteL 0 1 ++ [])) (i := 6) (xs := [.obj 4, .obj 5]) rfl
      have hN : XA Z D κ [("script", .fix (.ref a)), ("cells", .obj 3), ("rows", .obj 6), ("text", .str text)] (.cell (some (.inst 159 12)) :: .list cut :: .list (iv firstC) :: .list (iv [c0, c1, c2, c3, c4, c5, c6, c7]) :: .list (iv r1) :: .list (iv r2) :: .list [.obj 4, .obj 5] :: (stM k text whiteL q3.1 q3.2 ++ [.junk, .list [.obj 16, .obj 17], .list (iv r1), .list (iv r2)])) (.Name "told" ⟨324, 4, 324, 8⟩) (.obj 15)
        [("script", .fix (.ref a)), ("cells", .obj 3), ("rows", .obj 6), ("text", .str text), ("told", .obj 15)] (.cell (some (.inst 159 12)) :: .list cut :: .list (iv firstC) :: .list (iv [c0, c1, c2, c3, c4, c5, c6, c7]) :: .list (iv r1) :: .list (iv r2) :: .list [.obj 4, .obj 5] :: (stM k text whiteL q3.1 q3.2 ++ [.junk, .list [.obj 16, .obj 17], .list (iv r1), .list (iv r2)])) := by walk_at "my a"
      refine EvS.assignCompX (n := 2) K i0.h i1 (Itr.listIt (l := 6) (i := 0) rfl) l0 hN.h ?_ (fun _ _ => rfl) (fun _ _ => rfl) A s ρ env ok fr
      intro env e1 e2
      have e3 : env.kindOf (Str.ofString "told") = some .local := by unfold Env.kindOf; rw [e1, C.names]; decide +kernel
      have e4 : env.blockKind = .function := by unfold Env.blockKind; rw [e2]; rfl
      unfold swapsWith
      dsimp only
      rw [e3, e4]
      rfl
    have gu := up8 (a0 := .cell (some (.inst 159 12))) (a1 := .list cut) (a2 := .list (iv firstC)) (a3 := .list (iv [c0, c1, c2, c3, c4, c5, c6, c7])) (a4 := .list (iv r1)) (a5 := .list (iv r2)) (a6 := .list [.obj 4, .obj 5]) (υ := [.junk, .list [.obj 16, .obj 17], .list (iv r1), .list (iv r2)]) g (.str _)
    apply XSs.cons (loc₁ := [("script", .fix (.ref a)), ("cells", .obj 3), ("rows", .obj 6), ("text", .str text), ("told", .obj 15)]) (σ₁ := .cell (some (.inst 159 12)) :: .list cut :: .list (iv firstC) :: .list (iv [c0, c1, c2, c3, c4, c5, c6, c7]) :: .list (iv r1) :: .list (iv r2) :: .list [.obj 4, .obj 5] :: (stM k text whiteL p4 (1 + Txt.count text (Str.ofString "\n")) ++ [.junk, .list [.obj 16, .obj 17], .list (iv r1), .list (iv r2), .list [.str (Str.ofString ""), .int (1 + Txt.count text (Str.ofString "\n"))], .list [.str (Str.ofString ""), .int (1 + Txt.count text (Str.ofString "\n"))]]))
    · apply XS.ifF
      · apply XT.or2
        · apply XT.cmp
          · walk_at "my e"
          · walk_at "my e"
          · refine XC.neL (n := 1) rfl rfl rfl (fun k x y e1 e2 => ?_) (by (first | lia | omega))
            match k, e1, e2 with
            | 0, e1, e2 => cases e1; cases e2; exact .list rfl rfl rfl same_iv
            | 1, e1, e2 => cases e1; cases e2; exact .list rfl rfl rfl same_iv
          · rfl
          · rfl
        · apply XT.cmp
          · apply XE.list
            · apply XL.cons
              · apply XE.method
                · assumption
                · walk_at "my e"
                · walk_at "my M"
                · walk_at "my l"
                · walk_at "my keep"
                · exact XK.of gu
                · exact fun _ => rfl
                · exact fun _ => ⟨_, rfl⟩
              · walk_at "my l"
              · exact fun _ => rfl
            · walk_at "my sl"
          · walk_at "my e"
          · refine XC.neL (i := 18) (j := 19) (n := 0) rfl rfl rfl (fun k x y e1 e2 => ?_) (by (first | lia | omega))
            match k, e1, e2 with
            | 0, e1, e2 => cases e1; cases e2; exact .str _
            | 1, e1, e2 => cases e1; cases e2; exact .int _
          · rfl
          · rfl
      · exact XSs.nil
    have n3 : 0 ≤ c3.fmod 4 ∧ c3.fmod 4 < 4 := by rw [Int.fmod_eq_emod_of_nonneg _ (by decide)]; (first | lia | omega)
    have n30 := n3.1
    have n31 : c3.fmod 4 < 2 ^ 63 := by (first | lia | omega)
    have hname := H.eName
    have hz3 := H.z3
    have n5 : Sz (1 + c5.fmod 4) := by rw [Int.fmod_eq_emod_of_nonneg _ (by decide)]; unfold Sz; (first | lia | omega)
    have n6 : Sz (1 + c6.fmod 24) := by rw [Int.fmod_eq_emod_of_nonneg _ (by decide)]; unfold Sz; (first | lia | omega)
    have nt : Sz ((c3.fdiv 4).fmod 2) := by rw [Int.fmod_eq_emod_of_nonneg _ (by decide)]; unfold Sz; (first | lia | omega)
    have z2 : Sz 2 := by unfold Sz; decide
    apply XSs.cons (loc₁ := [("script", .fix (.ref a)), ("cells", .obj 3), ("rows", .obj 6), ("text", .str text), ("told", .obj 15), ("name", .str name)]) (σ₁ := .cell (some (.inst 159 12)) :: .list cut :: .list (iv firstC) :: .list (iv [c0, c1, c2, c3, c4, c5, c6, c7]) :: .list (iv r1) :: .list (iv r2) :: .list [.obj 4, .obj 5] :: (stM k text whiteL p4 (1 + Txt.count text (Str.ofString "\n")) ++ [.junk, .list [.obj 16, .obj 17], .list (iv r1), .list (iv r2), .list [.str (Str.ofString ""), .int (1 + Txt.count text (Str.ofString "\n"))], .list [.str (Str.ofString ""), .int (1 + Txt.count text (Str.ofString "\n"))], .list menuL]))
    · apply XS.assign
      · apply XE.subL
        · walk_at "my e"
        · walk_at "my e"
        · rfl
        · exact XG.list (xs := menuL) rfl n30 n31 hname
        · exact fun _ _ => ⟨_, rfl⟩
      · walk_at "my a"
      · exact fun _ => rfl
      · exact fun _ => rfl
      · exact fun _ => rfl
    apply XSs.cons (loc₁ := [("script", .fix (.ref a)), ("cells", .obj 3), ("rows", .obj 6), ("text", .str text), ("told", .obj 15), ("name", .str name), ("turn", .int turn)]) (σ₁ := .cell (some (.inst 159 12)) :: .list cut :: .list (iv firstC) :: .list (iv [c0, c1, c2, c3, c4, c5, c6, c7]) :: .list (iv r1) :: .list (iv r2) :: .list [.obj 4, .obj 5] :: (stM k text whiteL p4 (1 + Txt.count text (Str.ofString "\n")) ++ [.junk, .list [.obj 16, .obj 17], .list (iv r1), .list (iv r2), .list [.str (Str.ofString ""), .int (1 + Txt.count text (Str.ofString "\n"))], .list [.str (Str.ofString ""), .int (1 + Txt.count text (Str.ofString "\n"))], .list menuL]))
    · rw [← H.eTurn]
      clear hr1 hr2
      apply XS.assign
      · walk_at "my e"
      · walk_at "my a"
      · exact fun _ => rfl
      · exact fun _ => rfl
      · exact fun _ => rfl
    apply XSs.cons (loc₁ := [("script", .fix (.ref a)), ("cells", .obj 3), ("rows", .obj 6), ("text", .str text), ("told", .obj 15), ("name", .str name), ("turn", .int turn), ("factor", .int factor)]) (σ₁ := .cell (some (.inst 159 12)) :: .list cut :: .list (iv firstC) :: .list (iv [c0, c1, c2, c3, c4, c5, c6, c7]) :: .list (iv r1) :: .list (iv r2) :: .list [.obj 4, .obj 5] :: (stM k text whiteL p4 (1 + Txt.count text (Str.ofString "\n")) ++ [.junk, .list [.obj 16, .obj 17], .list (iv r1), .list (iv r2), .list [.str (Str.ofString ""), .int (1 + Txt.count text (Str.ofString "\n"))], .list [.str (Str.ofString ""), .int (1 + Txt.count text (Str.ofString "\n"))], .list menuL]))
    · rw [← H.eFactor]
      walk_at "my s"
    apply XSs.cons (loc₁ := [("script", .fix (.ref a)), ("cells", .obj 3), ("rows", .obj 6), ("text", .str text), ("told", .obj 15), ("name", .str name), ("turn", .int turn), ("factor", .int factor)]) (σ₁ := .cell (some (.inst 159 12)) :: .list cut :: .list (iv firstC) :: .list (iv [c0, c1, c2, c3, c4, c5, c6, c7]) :: .list (iv r1) :: .list (iv r2) :: .list [.obj 4, .obj 5] :: (stM k text whiteL p4 (1 + Txt.count text (Str.ofString "\n")) ++ [.junk, .list [.obj 16, .obj 17], .list (iv r1), .list (iv r2), .list [.str (Str.ofString ""), .int (1 + Txt.count text (Str.ofString "\n"))], .list [.str (Str.ofString ""), .int (1 + Txt.count text (Str.ofString "\n"))], .list menuL]))
    · walk_at "my s"
    apply XSs.cons (loc₁ := [("script", .fix (.ref a)), ("cells", .obj 3), ("rows", .obj 6), ("text", .str text), ("told", .obj 15), ("name", .str name), ("turn", .int turn), ("factor", .int factor)]) (σ₁ := .cell (some (.inst 159 12)) :: .list cut :: .list (iv firstC) :: .list (iv [c0, c1, c2, c3, c4, c5, c6, c7]) :: .list (iv r1) :: .list (iv r2) :: .list [.obj 4, .obj 5] :: (stM k text whiteL p4 (1 + Txt.count text (Str.ofString "\n")) ++ [.junk, .list [.obj 16, .obj 17], .list (iv r1), .list (iv r2), .list [.str (Str.ofString ""), .int (1 + Txt.count text (Str.ofString "\n"))], .list [.str (Str.ofString ""), .int (1 + Txt.count text (Str.ofString "\n"))], .list menuL]))
    · walk_at "my s"
    apply XSs.cons (loc₁ := [("script", .fix (.ref a)), ("cells", .obj 3), ("rows", .obj 6), ("text", .str text), ("told", .obj 15), ("name", .str name), ("turn", .int turn), ("factor", .int factor), ("grow", .int grow)]) (σ₁ := .cell (some (.inst 159 12)) :: .list cut :: .list (iv firstC) :: .list (iv [c0, c1, c2, c3, c4, c5, c6, c7]) :: .list (iv r1) :: .list (iv r2) :: .list [.obj 4, .obj 5] :: (stM k text whiteL p4 (1 + Txt.count text (Str.ofString "\n")) ++ [.junk, .list [.obj 16, .obj 17], .list (iv r1), .list (iv r2), .list [.str (Str.ofString ""), .int (1 + Txt.count text (Str.ofString "\n"))], .list [.str (Str.ofString ""), .int (1 + Txt.count text (Str.ofString "\n"))], .list menuL]))
    · rw [egrow]
      walk_at "my s"
    apply XSs.cons (loc₁ := [("script", .fix (.ref a)), ("cells", .obj 3), ("rows", .obj 6), ("text", .str text), ("told", .obj 15), ("name", .str name), ("turn", .int turn), ("factor", .int factor), ("grow", .int grow), ("over", .int over)]) (σ₁ := .cell (some (.inst 159 12)) :: .list cut :: .list (iv firstC) :: .list (iv [c0, c1, c2, c3, c4, c5, c6, c7]) :: .list (iv r1) :: .list (iv r2) :: .list [.obj 4, .obj 5] :: (stM k text whiteL p4 (1 + Txt.count text (Str.ofString "\n")) ++ [.junk, .list [.obj 16, .obj 17], .list (iv r1), .list (iv r2), .list [.str (Str.ofString ""), .int (1 + Txt.count text (Str.ofString "\n"))], .list [.str (Str.ofString ""), .int (1 + Txt.count text (Str.ofString "\n"))], .list menuL]))
    · rw [← eo]
      walk_at "my s"
    apply XSs.cons (loc₁ := [("script", .fix (.ref a)), ("cells", .obj 3), ("rows", .obj 6), ("text", .str text), ("told", .obj 15), ("name", .str name), ("turn", .int turn), ("factor", .int factor), ("grow", .int grow), ("over", .int over), ("under", .int under)]) (σ₁ := .cell (some (.inst 159 12)) :: .list cut :: .list (iv firstC) :: .list (iv [c0, c1, c2, c3, c4, c5, c6, c7]) :: .list (iv r1) :: .list (iv r2) :: .list [.obj 4, .obj 5] :: (stM k text whiteL p4 (1 + Txt.count text (Str.ofString "\n")) ++ [.junk, .list [.obj 16, .obj 17], .list (iv r1), .list (iv r2), .list [.str (Str.ofString ""), .int (1 + Txt.count text (Str.ofString "\n"))], .list [.str (Str.ofString ""), .int (1 + Txt.count text (Str.ofString "\n"))], .list menuL]))
    · rw [← eu]
      walk_at "my s"
    have f1 := hr1 (.cell (some (.inst 159 12)) :: .list cut :: .list (iv firstC) :: .list (iv [c0, c1, c2, c3, c4, c5, c6, c7]) :: .list (iv r1) :: .list (iv r2) :: .list [.obj 4, .obj 5] :: (stM k text whiteL p4 (1 + Txt.count text (Str.ofString "\n")) ++ [.junk, .list [.obj 16, .obj 17], .list (iv r1), .list (iv r2), .list [.str (Str.ofString ""), .int (1 + Txt.count text (Str.ofString "\n"))], .list [.str (Str.ofString ""), .int (1 + Txt.count text (Str.ofString "\n"))], .list menuL]))
    have f2 := hr2 (.cell (some (.inst 159 12)) :: .list cut :: .list (iv firstC) :: .list (iv [c0, c1, c2, c3, c4, c5, c6, c7]) :: .list (iv r1) :: .list (iv r2) :: .list [.obj 4, .obj 5] :: (stM k text whiteL p4 (1 + Txt.count text (Str.ofString "\n")) ++ [.junk, .list [.obj 16, .obj 17], .list (iv r1), .list (iv r2), .list [.str (Str.ofString ""), .int (1 + Txt.count text (Str.ofString "\n"))], .list [.str (Str.ofString ""), .int (1 + Txt.count text (Str.ofString "\n"))], .list menuL]))
    apply XSs.stop
    · apply XS.ret
      apply XE.and2
      · apply XE.call
        · assumption
        · walk_at "my e"
        · walk_at "my l"
        · walk_at "my keep"
        · exact XK.of f1
        · exact fun _ => rfl
      · exact XTr.bool
      · apply XE.call
        · assumption
        · walk_at "my e"
        · walk_at "my l"
        · walk_at "my keep"
        · exact XK.of f2
        · exact fun _ => rfl
    · intro h; cases h
  obtain ⟨σ', key, _⟩ := key
  exact ⟨σ', key⟩
end
section
theorem dUnit_scale {way turn g : Int} {p : Int × Int} (hg : 0 < g) : dUnit way turn (g * p.1, g * p.2) = dUnit way turn p := by
  unfold dUnit
  dsimp only
  rw [show turn * way * (g * p.2) = g * (turn * way * p.2) from by rw [Int.mul_left_comm], show turn * (g * p.1) = g * (turn * p.1) from Int.mul_left_comm .., Int.mul_fdiv_mul_of_pos _ _ hg]
theorem dStep_scale {way turn g : Int} {p : Int × Int} (hg : 0 < g) : dStep way turn (g * p.1, g * p.2) = (g * (dStep way turn p).1, g * (dStep way turn p).2) := by
  unfold dStep
  rw [dUnit_scale hg]
  dsimp only
  rw [show turn * way * (g * p.2) = g * (turn * way * p.2) from by rw [Int.mul_left_comm], show turn * (g * p.1) = g * (turn * p.1) from Int.mul_left_comm .., Int.mul_fmod_mul_of_pos _ _ hg, Int.mul_left_comm turn g, Int.mul_assoc g]
theorem dn_scale {way turn g : Int} {p : Int × Int} (hg : 0 < g) : ∀ k, dn way turn (g * p.1, g * p.2) k = (g * (dn way turn p k).1, g * (dn way turn p k).2)
  | 0 => rfl
  | k + 1 => by rw [dn, dn_scale hg k, dStep_scale hg]; rfl
theorem unitsD_scale {way turn g : Int} {p : Int × Int} (hg : 0 < g) (n : Nat) : unitsD way turn (g * p.1, g * p.2) n = unitsD way turn p n := by
  unfold unitsD
  refine List.map_congr_left fun k _ => ?_
  rw [dn_scale hg, dUnit_scale hg]

theorem fdiv_exact {x u g : Int} (hu : u ≠ 0) (h : x.fmod u = 0) : (g * x).fdiv u = g * x.fdiv u ∧ (g * x).fmod u = 0 := by
  have e : x = u * x.fdiv u := by have := Int.mul_fdiv_add_fmod x u; omega
  have e2 : g * x = u * (g * x.fdiv u) := by rw [Int.mul_left_comm, ← e]
  have h1 : (g * x).fdiv u = g * x.fdiv u := by rw [e2, Int.mul_fdiv_cancel_left _ hu]
  refine ⟨h1, ?_⟩
  have := Int.mul_fdiv_add_fmod (g * x) u
  rw [h1] at this
  omega

/-- the way up is exact -/
noncomputable def upX (way : Int) (U : Nat → Int) (p : Int × Int) (k : Nat) : Bool :=
  (upS way U p k).1.2.fmod (U k) == 0 && ((upS way U p k).1.2.fdiv (U k) - way * (upS way U p k).1.1).fmod (U k) == 0 && U k != 0
theorem upS_scale {way g : Int} {U : Nat → Int} {p : Int × Int} : ∀ N, (∀ k, k < N → upX way U p k = true) → upS way U (g * p.1, g * p.2) N = ((g * (upS way U p N).1.1, g * (upS way U p N).1.2), 0)
  | 0, _ => rfl
  | N + 1, h => by
    have ih := upS_scale (g := g) N fun k hk => h k (by omega)
    have hx := h N (by omega)
    unfold upX at hx
    simp only [Bool.and_eq_true, beq_iff_eq, bne_iff_ne] at hx
    obtain ⟨⟨x1, x2⟩, x3⟩ := hx
    obtain ⟨y1, y2⟩ := fdiv_exact (g := g) x3 x1
    obtain ⟨z1, z2⟩ := fdiv_exact (g := g) x3 x2
    rw [upS, ih, upS]
    dsimp only
    rw [y1, y2, show g * (upS way U p N).1.2.fdiv (U N) - way * (g * (upS way U p N).1.1) = g * ((upS way U p N).1.2.fdiv (U N) - way * (upS way U p N).1.1) from by rw [Int.mul_sub, Int.mul_left_comm], z1, z2]
    rfl
theorem prodL_scale (row : List Int) (f g : Int) : prodL row (g * f) = g * prodL row f := by
  unfold prodL
  induction row generalizing f with
  | nil => rfl
  | cons u r ih => simp only [List.foldl_cons]; rw [Int.mul_assoc]; exact ih _
end
section
/-- a cell's row is one of a few -/
theorem row_mod (way cell : Int) : (∀ k, k ≤ 3 → (rowP way cell k).2 = (rowP way ((cell.natAbs % 81 : Nat) : Int) k).2) ∧ rowL way cell = rowL way ((cell.natAbs % 81 : Nat) : Int) := by
  obtain ⟨a, ha⟩ : ∃ a, a = cell.natAbs := ⟨_, rfl⟩
  have hm : (((a % 81 : Nat) : Int)).natAbs = a % 81 := Int.natAbs_natCast _
  have f3 : ∀ x : Nat, (x : Int).fdiv 3 = ((x / 3 : Nat) : Int) := fun x => by rw [Int.fdiv_eq_ediv_of_nonneg _ (by decide)]; rfl
  have m3 : ∀ x : Nat, (x : Int).fmod 3 = ((x % 3 : Nat) : Int) := fun x => by rw [Int.fmod_eq_emod_of_nonneg _ (by decide)]; rfl
  have d1 : ∀ b k : Nat, b % (3 * k) / 3 = (b / 3) % k := fun b k => Nat.mod_mul_right_div_self b 3 k
  have e1 : a % (3 * 27) % 3 = a % 3 := Nat.mod_mod_of_dvd _ (by decide)
  have e2 : a % (3 * 27) / 3 % 3 = a / 3 % 3 := by rw [d1]; exact Nat.mod_mod_of_dvd _ (by decide)
  have e3 : a % (3 * 27) / 3 / 3 % 3 = a / 3 / 3 % 3 := by rw [d1, show 27 = 3 * 9 from rfl, d1]; exact Nat.mod_mod_of_dvd _ (by decide)
  have e4 : a % (3 * 27) / 3 / 3 / 3 % 3 = a / 3 / 3 / 3 % 3 := by rw [d1, show 27 = 3 * 9 from rfl, d1, show 9 = 3 * 3 from rfl, d1]; exact Nat.mod_mod_of_dvd _ (by decide)
  change a % 81 % 3 = _ at e1
  change a % 81 / 3 % 3 = _ at e2
  change a % 81 / 3 / 3 % 3 = _ at e3
  change a % 81 / 3 / 3 / 3 % 3 = _ at e4
  have h0 : (rowP way cell 0).2 = (rowP way ((a % 81 : Nat) : Int) 0).2 := rfl
  have h1 : (rowP way cell 1).2 = (rowP way ((a % 81 : Nat) : Int) 1).2 := by
    simp only [rowP, ← ha, hm, f3, m3, e1, e2]
  have h2 : (rowP way cell 2).2 = (rowP way ((a % 81 : Nat) : Int) 2).2 := by
    simp only [rowP, ← ha, hm, f3, m3, e1, e2, e3]
  have h3 : (rowP way cell 3).2 = (rowP way ((a % 81 : Nat) : Int) 3).2 := by
    simp only [rowP, ← ha, hm, f3, m3, e1, e2, e3, e4]
  rw [← ha]
  have hk : ∀ k, k ≤ 3 → (rowP way cell k).2 = (rowP way ((a % 81 : Nat) : Int) k).2 := fun k hk => by
    match k, hk with
    | 0, _ => exact h0
    | 1, _ => exact h1
    | 2, _ => exact h2
    | 3, _ => exact h3
  refine ⟨hk, ?_⟩
  unfold rowL
  have hn : rowN ((a % 81 : Nat) : Int) = rowN cell := by
    unfold rowN; rw [hm, ← ha, m3, m3, e1]
  rw [hn]
  exact hk _ (rowN_eq cell).2

noncomputable def rowsOf (way : Int) : List (List Int) := (List.range 81).map fun m => rowL way (m : Nat)
theorem row_in (way cell : Int) : rowL way cell ∈ rowsOf way := by
  rw [(row_mod way cell).2]
  exact List.mem_map.mpr ⟨cell.natAbs % 81, List.mem_range.mpr (Nat.mod_lt _ (by decide)), rfl⟩
noncomputable def bigB (way : Int) : Bool := (List.range 81).all fun m => (List.range 4).all fun k => (rowP way (m : Nat) k).2.all (fun u => decide (0 ≤ u) && decide (u.natAbs < 1000)) && decide ((rowP way (m : Nat) k).2.length ≤ 3)
theorem bigB_1 : bigB (-1) = true := by decide +kernel
theorem bigB_2 : bigB 1 = true := by decide +kernel
theorem big_of {way : Int} (h : bigB way = true) (cell : Int) : (∀ k, k ≤ 3 → ∀ u ∈ (rowP way cell k).2, 0 ≤ u ∧ u.natAbs < 2 ^ 999) ∧ ∀ k, k ≤ 3 → (rowP way cell k).2.length ≤ 3 := by
  unfold bigB at h
  have key : ∀ k, k ≤ 3 → (∀ u ∈ (rowP way cell k).2, 0 ≤ u ∧ u.natAbs < 1000) ∧ (rowP way cell k).2.length ≤ 3 := fun k hk => by
    have h1 := List.all_eq_true.mp h (cell.natAbs % 81) (List.mem_range.mpr (Nat.mod_lt _ (by decide)))
    have h2 := List.all_eq_true.mp h1 k (List.mem_range.mpr (by (first | lia | omega)))
    rw [← (row_mod way cell).1 k hk] at h2
    simp only [Bool.and_eq_true, List.all_eq_true, decide_eq_true_eq] at h2
    exact h2
  exact ⟨fun k hk u hu => ⟨((key k hk).1 u hu).1, Nat.lt_trans ((key k hk).1 u hu).2 (by decide)⟩, fun k hk => (key k hk).2⟩

/-- the numbers of one row, no factor -/
noncomputable def startN (row : List Int) (way : Int) : Int × Int := (sumL row way (prodL row 1), prodL row 1)
noncomputable def smallB (a : Int) : Bool := decide (a.natAbs < 2 ^ 200)
noncomputable def cbN (row : List Int) (way turn : Int) : Bool :=
  decide (row.length ≤ 3) && decide (row ≠ []) && row.all (fun u => decide (0 < u) && decide (u < 1000) && (prodL row 1).fmod u == 0 && smallB ((prodL row 1).fdiv u))
  && (List.range 4).all (fun k => smallB (prodL (row.take k) 1))
  && (List.range row.length).all (fun k => decide (0 < (dn way turn (startN row way) k).1) && smallB (dUnit way turn (dn way turn (startN row way) k)))
  && (dn way turn (startN row way) row.length).1 == 0
  && (List.range (row.length + 1)).all (fun k => smallB (dn way turn (startN row way) k).1 && smallB (dn way turn (startN row way) k).2)
  && unitsD way turn (startN row way) row.length == row
  && (List.range row.length).all (fun k => upX way (upU row) (0, (dn way turn (startN row way) row.length).2) k)
  && (List.range (row.length + 1)).all (fun k => (upS way (upU row) (0, (dn way turn (startN row way) row.length).2) k).1 == dn way turn (startN row way) (row.length - k))
noncomputable def cbNs (way : Int) : Bool := (rowsOf way).all fun row => cbN row way 1 && cbN row way (-1)
theorem cbNs_1 : cbNs (-1) = true := by decide +kernel
theorem cbNs_2 : cbNs 1 = true := by decide +kernel
end
section
/-- the names of the law -/
noncomputable def namesX : List Str := [Str.ofString "n", Str.ofString "7", Str.ofString "n.o", Str.ofString "7.n"]
noncomputable def wordN (name : Str) (row : List Int) : Nat := (splitAt name (Str.ofString ".")).length + row.length
noncomputable def wordT (name : Str) (row : List Int) : List Str := splitAt name (Str.ofString ".") ++ row.map fun u => Str.ofString (toString u)
noncomputable def wordsB (name : Str) (row : List Int) : Bool :=
  ((List.range (wordN name row)).map (wsT "." (pileOf name row) (0, 1)) == wordT name row) && (wordT name row).all (fun w => !(w == Str.ofString "")) && (wsT "." (pileOf name row) (0, 1) (wordN name row) == Str.ofString "")
  && decide (wordN name row ≤ 100)
noncomputable def pileB (name : Str) (row : List Int) : Bool :=
  match endR (pileOf name row) with
  | some (some (i, j)) => numB (strCut (cutN (pileOf name row) i j) (some 1) none) (row.getLast?.getD 0) && (strCut (pileOf name row) none (some (i : Int)) ++ strCut (pileOf name row) (some (j : Int)) none == pileOf name row.dropLast) && decide ((pileOf name row).length ≤ 1000)
  | _ => false
noncomputable def nameB (name : Str) : Bool :=
  (endR name == some none) && !(name == Str.ofString "") && decide (name.length ≤ 100) && decide ((splitAt name (Str.ofString ".")).length ≤ 100)
  && (match (seqIndex? 0 name.length).bind (name.cps[·]?), (seqIndex? (-1) name.length).bind (name.cps[·]?) with
    | some c, some d => !((⟨#[c]⟩ : Str) == Str.ofString ".") && !((⟨#[d]⟩ : Str) == Str.ofString ".")
    | _, _ => false)
noncomputable def rowsX : List (List Int) := [[2], [2, 3], [2, 3, 7], [3], [3, 7], [3, 7, 43], [4], [4, 13], [4, 13, 157], [2, 4], [2, 4, 13], [3, 8], [3, 8, 57], [4, 14], [4, 14, 183], [2, 5], [2, 5, 21], [3, 9], [3, 9, 73], [4, 15], [4, 15, 211], [2, 3, 8], [3, 7, 44], [4, 13, 158], [2, 4, 14], [3, 8, 58], [4, 14, 184], [2, 5, 22], [3, 9, 74], [4, 15, 212], [2, 3, 9], [3, 7, 45], [4, 13, 159], [2, 4, 15], [3, 8, 59], [4, 14, 185], [2, 5, 23], [3, 9, 75], [4, 15, 213], [1], [1, 3], [1, 2, 7], [2, 7], [2, 6, 43], [3, 13], [3, 12, 157], [1, 4], [1, 3, 13], [2, 8], [2, 7, 57], [3, 14], [3, 13, 183], [1, 5], [1, 4, 21], [2, 9], [2, 8, 73], [3, 15], [3, 14, 211], [1, 2, 8], [2, 6, 44], [3, 12, 158], [1, 3, 14], [2, 7, 58], [3, 13, 184], [1, 4, 22], [2, 8, 74], [3, 14, 212], [1, 2, 9], [2, 6, 45], [3, 12, 159], [1, 3, 15], [2, 7, 59], [3, 13, 185], [1, 4, 23], [2, 8, 75], [3, 14, 213]]
noncomputable def prefA0 : List (List Int) := [[2], [2, 3], [2, 3, 7], [3], [3, 7], [3, 7, 43], [4], [4, 13], [4, 13, 157], [2, 4]]
noncomputable def prefA1 : List (List Int) := [[2, 4, 13], [3, 8], [3, 8, 57], [4, 14], [4, 14, 183], [2, 5], [2, 5, 21], [3, 9], [3, 9, 73], [4, 15]]
noncomputable def prefA2 : List (List Int) := [[4, 15, 211], [2, 3, 8], [3, 7, 44], [4, 13, 158], [2, 4, 14], [3, 8, 58], [4, 14, 184], [2, 5, 22], [3, 9, 74], [4, 15, 212]]
noncomputable def prefA3 : List (List Int) := [[2, 3, 9], [3, 7, 45], [4, 13, 159], [2, 4, 15], [3, 8, 59], [4, 14, 185], [2, 5, 23], [3, 9, 75], [4, 15, 213], [1]]
noncomputable def prefA4 : List (List Int) := [[1, 3], [1, 2], [1, 2, 7], [2, 7], [2, 6], [2, 6, 43], [3, 13], [3, 12], [3, 12, 157], [1, 4]]
noncomputable def prefA5 : List (List Int) := [[1, 3, 13], [2, 8], [2, 7, 57], [3, 14], [3, 13, 183], [1, 5], [1, 4, 21], [2, 9], [2, 8, 73], [3, 15]]
noncomputable def prefA6 : List (List Int) := [[3, 14, 211], [1, 2, 8], [2, 6, 44], [3, 12, 158], [1, 3, 14], [2, 7, 58], [3, 13, 184], [1, 4, 22], [2, 8, 74], [3, 14, 212]]
noncomputable def prefA7 : List (List Int) := [[1, 2, 9], [2, 6, 45], [3, 12, 159], [1, 3, 15], [2, 7, 59], [3, 13, 185], [1, 4, 23], [2, 8, 75], [3, 14, 213]]
noncomputable def prefX : List (List Int) := prefA0 ++ prefA1 ++ prefA2 ++ prefA3 ++ prefA4 ++ prefA5 ++ prefA6 ++ prefA7
noncomputable def unitsX : List Int := [1, 2, 3, 4, 5, 6, 7, 8, 9, 12, 13, 14, 15, 21, 22, 23, 43, 44, 45, 57, 58, 59, 73, 74, 75, 157, 158, 159, 183, 184, 185, 211, 212, 213]
theorem rows_sub : ((rowsOf (-1)).all fun r => rowsX.contains r && (List.range 3).all fun k => k ≥ r.length || prefX.contains (r.take (k + 1))) = true := by decide +kernel
theorem rows_sub2 : ((rowsOf 1).all fun r => rowsX.contains r && (List.range 3).all fun k => k ≥ r.length || prefX.contains (r.take (k + 1))) = true := by decide +kernel
theorem names_ok : namesX.all nameB = true := by decide +kernel
theorem words_0 : (rowsX.all (wordsB (Str.ofString "n"))) = true := by decide +kernel
theorem words_1 : (rowsX.all (wordsB (Str.ofString "7"))) = true := by decide +kernel
theorem words_2 : (rowsX.all (wordsB (Str.ofString "n.o"))) = true := by decide +kernel
theorem words_3 : (rowsX.all (wordsB (Str.ofString "7.n"))) = true := by decide +kernel
theorem piles_0_0 : (prefA0.all (pileB (Str.ofString "n"))) = true := by decide +kernel
theorem piles_0_1 : (prefA1.all (pileB (Str.ofString "n"))) = true := by decide +kernel
theorem piles_0_2 : (prefA2.all (pileB (Str.ofString "n"))) = true := by decide +kernel
theorem piles_0_3 : (prefA3.all (pileB (Str.ofString "n"))) = true := by decide +kernel
theorem piles_0_4 : (prefA4.all (pileB (Str.ofString "n"))) = true := by decide +kernel
theorem piles_0_5 : (prefA5.all (pileB (Str.ofString "n"))) = true := by decide +kernel
theorem piles_0_6 : (prefA6.all (pileB (Str.ofString "n"))) = true := by decide +kernel
theorem piles_0_7 : (prefA7.all (pileB (Str.ofString "n"))) = true := by decide +kernel
theorem piles_0 : (prefX.all (pileB (Str.ofString "n"))) = true := by
  unfold prefX
  simp only [List.all_append, piles_0_0, piles_0_1, piles_0_2, piles_0_3, piles_0_4, piles_0_5, piles_0_6, piles_0_7, Bool.and_self]
theorem piles_1_0 : (prefA0.all (pileB (Str.ofString "7"))) = true := by decide +kernel
theorem piles_1_1 : (prefA1.all (pileB (Str.ofString "7"))) = true := by decide +kernel
theorem piles_1_2 : (prefA2.all (pileB (Str.ofString "7"))) = true := by decide +kernel
theorem piles_1_3 : (prefA3.all (pileB (Str.ofString "7"))) = true := by decide +kernel
theorem piles_1_4 : (prefA4.all (pileB (Str.ofString "7"))) = true := by decide +kernel
theorem piles_1_5 : (prefA5.all (pileB (Str.ofString "7"))) = true := by decide +kernel
theorem piles_1_6 : (prefA6.all (pileB (Str.ofString "7"))) = true := by decide +kernel
theorem piles_1_7 : (prefA7.all (pileB (Str.ofString "7"))) = true := by decide +kernel
theorem piles_1 : (prefX.all (pileB (Str.ofString "7"))) = true := by
  unfold prefX
  simp only [List.all_append, piles_1_0, piles_1_1, piles_1_2, piles_1_3, piles_1_4, piles_1_5, piles_1_6, piles_1_7, Bool.and_self]
theorem piles_2_0 : (prefA0.all (pileB (Str.ofString "n.o"))) = true := by decide +kernel
theorem piles_2_1 : (prefA1.all (pileB (Str.ofString "n.o"))) = true := by decide +kernel
theorem piles_2_2 : (prefA2.all (pileB (Str.ofString "n.o"))) = true := by decide +kernel
theorem piles_2_3 : (prefA3.all (pileB (Str.ofString "n.o"))) = true := by decide +kernel
theorem piles_2_4 : (prefA4.all (pileB (Str.ofString "n.o"))) = true := by decide +kernel
theorem piles_2_5 : (prefA5.all (pileB (Str.ofString "n.o"))) = true := by decide +kernel
theorem piles_2_6 : (prefA6.all (pileB (Str.ofString "n.o"))) = true := by decide +kernel
theorem piles_2_7 : (prefA7.all (pileB (Str.ofString "n.o"))) = true := by decide +kernel
theorem piles_2 : (prefX.all (pileB (Str.ofString "n.o"))) = true := by
  unfold prefX
  simp only [List.all_append, piles_2_0, piles_2_1, piles_2_2, piles_2_3, piles_2_4, piles_2_5, piles_2_6, piles_2_7, Bool.and_self]
theorem piles_3_0 : (prefA0.all (pileB (Str.ofString "7.n"))) = true := by decide +kernel
theorem piles_3_1 : (prefA1.all (pileB (Str.ofString "7.n"))) = true := by decide +kernel
theorem piles_3_2 : (prefA2.all (pileB (Str.ofString "7.n"))) = true := by decide +kernel
theorem piles_3_3 : (prefA3.all (pileB (Str.ofString "7.n"))) = true := by decide +kernel
theorem piles_3_4 : (prefA4.all (pileB (Str.ofString "7.n"))) = true := by decide +kernel
theorem piles_3_5 : (prefA5.all (pileB (Str.ofString "7.n"))) = true := by decide +kernel
theorem piles_3_6 : (prefA6.all (pileB (Str.ofString "7.n"))) = true := by decide +kernel
theorem piles_3_7 : (prefA7.all (pileB (Str.ofString "7.n"))) = true := by decide +kernel
theorem piles_3 : (prefX.all (pileB (Str.ofString "7.n"))) = true := by
  unfold prefX
  simp only [List.all_append, piles_3_0, piles_3_1, piles_3_2, piles_3_3, piles_3_4, piles_3_5, piles_3_6, piles_3_7, Bool.and_self]
end
section
theorem take_small (row : List Int) (h : row.length ≤ 3) (k : Nat) : ∃ j, j < 4 ∧ row.take k = row.take j := by
  by_cases hk : k < 4
  · exact ⟨k, hk, rfl⟩
  · exact ⟨3, by decide, by rw [List.take_of_length_le (by omega), List.take_of_length_le h]⟩
theorem sz_scale {g a : Int} (hg : g.natAbs < 2 ^ 190) (ha : smallB a = true) : (g * a).natAbs < 2 ^ 390 := by
  unfold smallB at ha
  have ha := of_decide_eq_true ha
  rw [Int.natAbs_mul]
  calc g.natAbs * a.natAbs < 2 ^ 190 * 2 ^ 200 := Nat.mul_lt_mul'' hg ha
    _ = 2 ^ 390 := by rw [← Nat.pow_add]
theorem sz_390 {a : Int} (h : a.natAbs < 2 ^ 390) : Sz a := Nat.lt_trans h (Nat.pow_lt_pow_right (by decide) (by decide))
theorem sz_small {a : Int} (h : smallB a = true) : Sz a := Nat.lt_trans (of_decide_eq_true h) (Nat.pow_lt_pow_right (by decide) (by decide))
theorem sumP_scale {way P g : Int} : ∀ (row : List Int) (s t : Int), (∀ u ∈ row, u ≠ 0 ∧ P.fmod u = 0) → row.foldl (sumSt way (g * P)) (g * s, t) = (g * (row.foldl (sumSt way P) (s, t)).1, (row.foldl (sumSt way P) (s, t)).2)
  | [], s, t, _ => rfl
  | u :: r, s, t, h => by
    obtain ⟨h1, h2⟩ := h u (.head _)
    simp only [List.foldl_cons]
    have e : sumSt way (g * P) (g * s, t) u = (g * (sumSt way P (s, t) u).1, (sumSt way P (s, t) u).2) := by
      unfold sumSt
      dsimp only
      rw [(fdiv_exact h1 h2).1, Int.mul_add, Int.mul_left_comm]
    rw [e]
    exact sumP_scale r _ _ fun u hu => h u (.tail _ hu)
theorem start_scale {row : List Int} {way g : Int} (h : ∀ u ∈ row, u ≠ 0 ∧ (prodL row 1).fmod u = 0) : startOf row way g = (g * (startN row way).1, g * (startN row way).2) := by
  have e1 : prodL row g = g * prodL row 1 := by have := prodL_scale row 1 g; rwa [Int.mul_one] at this
  unfold startOf startN
  rw [e1]
  dsimp only
  have := sumP_scale (way := way) (P := prodL row 1) (g := g) row 0 1 h
  rw [Int.mul_zero] at this
  unfold sumL sumP
  rw [this]

structure RowOk (row : List Int) (way turn : Int) : Prop where
  len : row.length ≤ 3
  ne : row ≠ []
  u : ∀ u ∈ row, 0 < u ∧ u < 1000 ∧ (prodL row 1).fmod u = 0 ∧ smallB ((prodL row 1).fdiv u) = true
  pr : ∀ k, k < 4 → smallB (prodL (row.take k) 1) = true
  pos : ∀ k, k < row.length → 0 < (dn way turn (startN row way) k).1 ∧ smallB (dUnit way turn (dn way turn (startN row way) k)) = true
  zero : (dn way turn (startN row way) row.length).1 = 0
  small : ∀ k, k < row.length + 1 → smallB (dn way turn (startN row way) k).1 = true ∧ smallB (dn way turn (startN row way) k).2 = true
  units : unitsD way turn (startN row way) row.length = row
  up : ∀ k, k < row.length → upX way (upU row) (0, (dn way turn (startN row way) row.length).2) k = true
  back : ∀ k, k < row.length + 1 → (upS way (upU row) (0, (dn way turn (startN row way) row.length).2) k).1 = dn way turn (startN row way) (row.length - k)
theorem rowOk_of {row : List Int} {way turn : Int} (h : cbN row way turn = true) : RowOk row way turn := by
  unfold cbN at h
  simp only [Bool.and_eq_true, List.all_eq_true, decide_eq_true_eq, beq_iff_eq, List.mem_range] at h
  obtain ⟨⟨⟨⟨⟨⟨⟨⟨⟨h1, h2⟩, h3⟩, h4⟩, h5⟩, h6⟩, h7⟩, h8⟩, h9⟩, h10⟩ := h
  exact ⟨h1, h2, fun u hu => ⟨(h3 u hu).1.1.1, (h3 u hu).1.1.2, (h3 u hu).1.2, (h3 u hu).2⟩, h4, h5, h6, h7, h8, h9, h10⟩
theorem rowOk {way turn : Int} (hw : way = 1 ∨ way = -1) (ht : turn = 1 ∨ turn = -1) (cell : Int) : RowOk (rowL way cell) way turn := by
  have hb : cbNs way = true := by rcases hw with rfl | rfl; exact cbNs_2; exact cbNs_1
  have := List.all_eq_true.mp hb _ (row_in way cell)
  simp only [Bool.and_eq_true] at this
  rcases ht with rfl | rfl
  · exact rowOk_of this.1
  · exact rowOk_of this.2
end
section
structure TextOk (name : Str) (row : List Int) : Prop where
  words : (List.range (wordN name row)).map (wsT "." (pileOf name row) (0, 1)) = wordT name row
  full : ∀ w ∈ wordT name row, w ≠ Str.ofString ""
  stop : wsT "." (pileOf name row) (0, 1) (wordN name row) = Str.ofString ""
  few : wordN name row ≤ 100
  pile : ∀ k, 0 < k → k ≤ row.length → ∃ i j, endR (pileOf name (row.take k)) = some (some (i, j)) ∧ numB (strCut (cutN (pileOf name (row.take k)) i j) (some 1) none) (row.getD (k - 1) 0) = true ∧ strCut (pileOf name (row.take k)) none (some (i : Int)) ++ strCut (pileOf name (row.take k)) (some (j : Int)) none = pileOf name (row.take (k - 1)) ∧ (pileOf name (row.take k)).length ≤ 1000
  bare : endR name = some none ∧ (name == Str.ofString "") = false ∧ ∃ c d, (seqIndex? 0 name.length).bind (name.cps[·]?) = some c ∧ (seqIndex? (-1) name.length).bind (name.cps[·]?) = some d ∧ ((⟨#[c]⟩ : Str) == Str.ofString ".") = false ∧ ((⟨#[d]⟩ : Str) == Str.ofString ".") = false
  nm : name.length ≤ 100 ∧ (splitAt name (Str.ofString ".")).length ≤ 100

theorem name_of {name : Str} (h : nameB name = true) : (endR name = some none ∧ (name == Str.ofString "") = false ∧ ∃ c d, (seqIndex? 0 name.length).bind (name.cps[·]?) = some c ∧ (seqIndex? (-1) name.length).bind (name.cps[·]?) = some d ∧ ((⟨#[c]⟩ : Str) == Str.ofString ".") = false ∧ ((⟨#[d]⟩ : Str) == Str.ofString ".") = false) ∧ (name.length ≤ 100 ∧ (splitAt name (Str.ofString ".")).length ≤ 100) := by
  unfold nameB at h
  simp only [Bool.and_eq_true, decide_eq_true_eq, beq_iff_eq, Bool.not_eq_true'] at h
  obtain ⟨⟨⟨⟨h1, h2⟩, h3⟩, h4⟩, h5⟩ := h
  refine ⟨⟨h1, h2, ?_⟩, h3, h4⟩
  revert h5
  cases e1 : (seqIndex? 0 name.length).bind (name.cps[·]?) with
  | none => simp
  | some c =>
    cases e2 : (seqIndex? (-1) name.length).bind (name.cps[·]?) with
    | none => simp
    | some d =>
      intro h5
      simp only [Bool.and_eq_true, Bool.not_eq_true'] at h5
      exact ⟨c, d, rfl, rfl, h5.1, h5.2⟩
theorem pile_of {name : Str} {row : List Int} (h : pileB name row = true) : ∃ i j, endR (pileOf name row) = some (some (i, j)) ∧ numB (strCut (cutN (pileOf name row) i j) (some 1) none) (row.getLast?.getD 0) = true ∧ strCut (pileOf name row) none (some (i : Int)) ++ strCut (pileOf name row) (some (j : Int)) none = pileOf name row.dropLast ∧ (pileOf name row).length ≤ 1000 := by
  unfold pileB at h
  revert h
  cases e : endR (pileOf name row) with
  | none => simp
  | some o =>
    cases o with
    | none => simp
    | some ij =>
      obtain ⟨i, j⟩ := ij
      intro h
      simp only [Bool.and_eq_true, decide_eq_true_eq, beq_iff_eq] at h
      exact ⟨i, j, rfl, h.1.1, h.1.2, h.2⟩
theorem take_last {row : List Int} {k : Nat} (h0 : 0 < k) (h1 : k ≤ row.length) : (row.take k).getLast?.getD 0 = row.getD (k - 1) 0 ∧ (row.take k).dropLast = row.take (k - 1) := by
  constructor
  · rw [List.getLast?_eq_getElem?, List.length_take, Nat.min_eq_left h1, List.getElem?_take_of_lt (by (first | lia | omega)), List.getD_eq_getElem?_getD]
  · rw [List.dropLast_eq_take, List.length_take, Nat.min_eq_left h1, List.take_take, Nat.min_eq_left (by (first | lia | omega))]
theorem textOk_of {name : Str} {row : List Int} (h1 : nameB name = true) (h2 : wordsB name row = true) (h3 : ∀ k, 0 < k → k ≤ row.length → pileB name (row.take k) = true) : TextOk name row := by
  obtain ⟨n1, n2⟩ := name_of h1
  unfold wordsB at h2
  simp only [Bool.and_eq_true, decide_eq_true_eq, beq_iff_eq, List.all_eq_true, Bool.not_eq_true', beq_eq_false_iff_ne] at h2
  obtain ⟨⟨⟨w1, w2⟩, w3⟩, w4⟩ := h2
  refine ⟨w1, w2, w3, w4, fun k k0 k1 => ?_, n1, n2⟩
  obtain ⟨i, j, a, b, c, d⟩ := pile_of (h3 k k0 k1)
  obtain ⟨t1, t2⟩ := take_last k0 k1
  rw [t1] at b
  rw [t2] at c
  exact ⟨i, j, a, b, c, d⟩
theorem unitsD_take {way turn : Int} {p : Int × Int} {n k : Nat} (h : k ≤ n) : unitsD way turn p k = (unitsD way turn p n).take k := by
  unfold unitsD
  rw [← List.map_take, List.take_range, Nat.min_eq_left h]

theorem cb_of {name : Str} {row : List Int} {way turn g : Int} (hw : way = 1 ∨ way = -1) (ht : turn = 1 ∨ turn = -1) (R : RowOk row way turn) (T : TextOk name row) (h0 : 0 < g) (hg : g.natAbs < 2 ^ 190) : CbOk name row way g turn (wordN name row) := by
  have hex : ∀ u ∈ row, u ≠ 0 ∧ (prodL row 1).fmod u = 0 := fun u hu => ⟨by have := (R.u u hu).1; (first | lia | omega), (R.u u hu).2.2.1⟩
  have hs : startOf row way g = (g * (startN row way).1, g * (startN row way).2) := start_scale hex
  have hd : ∀ k, dn way turn (startOf row way g) k = (g * (dn way turn (startN row way) k).1, g * (dn way turn (startN row way) k).2) := fun k => by rw [hs]; exact dn_scale h0 k
  have hp : ∀ r : List Int, prodL r g = g * prodL r 1 := fun r => by have := prodL_scale r 1 g; rwa [Int.mul_one] at this
  have hz : (dn way turn (startOf row way g) row.length).1 = 0 := by rw [hd, R.zero, Int.mul_zero]
  have hun : ∀ k, k ≤ row.length → unitsD way turn (startOf row way g) k = row.take k := fun k hk => by
    rw [unitsD_take hk, hs, unitsD_scale h0, R.units]
  have hpl : ∀ k, k ≤ row.length → (pileOf name (row.take k)).length ≤ 1000 := fun k hk => by
    by_cases k0 : k = 0
    · subst k0
      rw [List.take_zero]
      show name.length ≤ 1000
      have := T.nm.1; (first | lia | omega)
    · obtain ⟨i, j, _, _, _, d⟩ := T.pile k (by (first | lia | omega)) hk
      exact d
  have hup : ∀ k, k ≤ row.length → upS way (upU row) (0, (dn way turn (startOf row way g) row.length).2) k = ((g * (dn way turn (startN row way) (row.length - k)).1, g * (dn way turn (startN row way) (row.length - k)).2), 0) := fun k hk => by
    have e : ((0 : Int), (dn way turn (startOf row way g) row.length).2) = (g * ((0 : Int), (dn way turn (startN row way) row.length).2).1, g * ((0 : Int), (dn way turn (startN row way) row.length).2).2) := by
      rw [hd, Int.mul_zero]
    rw [e, upS_scale k fun j hj => R.up j (by (first | lia | omega)), R.back k (by (first | lia | omega))]
  have hsm := R.small
  refine ⟨fun k => ?_, fun u hu => ?_, ⟨hw, ht, fun k hk => ?_, ?_, fun k hk => ?_, fun k hk => ?_, fun k hk => ?_, fun k hk => ?_, ?_⟩, ?_, hz, ?_, fun k hk => ?_, T.stop, T.words, ⟨hw, fun k hk => ?_, ?_, fun k hk => ?_, fun k hk => ?_, fun k hk => ?_, fun k hk => ?_, ?_⟩, fun k hk => ?_, ?_, ?_, T.nm, T.bare⟩
  · obtain ⟨j, hj, e⟩ := take_small row R.len k
    rw [e, hp]
    exact sz_390 (sz_scale hg (R.pr j hj))
  · obtain ⟨a, b, c, d⟩ := R.u u hu
    rw [hp, (fdiv_exact (by (first | lia | omega)) c).1]
    exact ⟨by (first | lia | omega), sz_390 (Nat.lt_trans (show u.natAbs < 1000 by (first | lia | omega)) (by decide)), sz_390 (sz_scale hg d)⟩
  · rw [hd]; exact Int.mul_pos h0 (R.pos k hk).1
  · rw [hz]; exact Int.le_refl 0
  · rw [hd]; exact sz_scale hg (hsm k (by (first | lia | omega))).1
  · rw [hd]; exact sz_scale hg (hsm k (by (first | lia | omega))).2
  · rw [hd, dUnit_scale h0]; exact sz_small (R.pos k hk).2
  · rw [hun k hk]; exact hpl k hk
  · have := R.len; (first | lia | omega)
  · rw [hun _ (Nat.le_refl _), List.take_length]
  · have := T.few; (first | lia | omega)
  · have hk' := hk
    have e : wsT "." (pileOf name row) (0, 1) k ∈ wordT name row := by
      rw [← T.words]; exact List.mem_map.mpr ⟨k, List.mem_range.mpr hk, rfl⟩
    exact T.full _ e
  · obtain ⟨i, j, a, b, c, _⟩ := T.pile (row.length - k) (by (first | lia | omega)) (by (first | lia | omega))
    refine ⟨i, j, a, ?_, ?_⟩
    · show numB _ (row.getD (row.length - 1 - k) 0) = true
      rw [show row.length - 1 - k = row.length - k - 1 from by (first | lia | omega)]; exact b
    · show _ = pileOf name (row.take (row.length - (k + 1)))
      rw [show row.length - (k + 1) = row.length - k - 1 from by (first | lia | omega)]; exact c
  · show endR (pileOf name (row.take (row.length - row.length))) = some none
    rw [Nat.sub_self, List.take_zero]; exact T.bare.1
  · exact hpl _ (by (first | lia | omega))
  · show row.getD (row.length - 1 - k) 0 ≠ 0 ∧ (row.getD (row.length - 1 - k) 0).natAbs < 2 ^ 390
    have hm : row.getD (row.length - 1 - k) 0 ∈ row := by
      rw [List.getD_eq_getElem?_getD, List.getElem?_eq_getElem (by (first | lia | omega))]; exact List.getElem_mem _
    obtain ⟨a, b, _⟩ := R.u _ hm
    exact ⟨by (first | lia | omega), Nat.lt_trans (show Int.natAbs _ < 1000 by (first | lia | omega)) (by decide)⟩
  · rw [hup k hk]; exact sz_scale hg (hsm _ (by (first | lia | omega))).1
  · rw [hup k hk]; exact sz_scale hg (hsm _ (by (first | lia | omega))).2
  · have := R.len; (first | lia | omega)
  · rw [hup k hk, hd]
  · rw [hup _ (Nat.le_refl _)]
  · have hl : 0 < row.length := List.length_pos_iff.mpr R.ne
    obtain ⟨i, j, a, _⟩ := T.pile row.length hl (Nat.le_refl _)
    rw [List.take_length] at a
    exact ⟨i, j, a⟩
end
section
noncomputable def hrN (way turn : Int) (p : Int × Int) : Nat := ((List.range 30).find? fun n => decide ((dn way turn p n).1 ≤ 0)).getD 30
noncomputable def hrW (way turn : Int) (p : Int × Int) : List Int := unitsD way turn p (hrN way turn p)
noncomputable def hrT (row : List Int) : Bool :=
  ((List.range (row.length + 1)).map (wsT "." (pileOf (Str.ofString "n") row) (0, 1)) == Str.ofString "n" :: txts row) && (Str.ofString "n" :: txts row).all (fun w => !(w == Str.ofString "")) && (wsT "." (pileOf (Str.ofString "n") row) (0, 1) (row.length + 1) == Str.ofString "")
  && row.all (fun u => numB (Str.ofString (toString u)) u) && (List.range (row.length + 1)).all (fun k => decide ((pileOf (Str.ofString "n") (row.take k)).length ≤ 1000))
noncomputable def hrB (way turn : Int) (p : Int × Int) : Bool :=
  hrT (hrW way turn p) && decide ((dn way turn p (hrN way turn p)).1 = 0)
  && (List.range (hrN way turn p)).all (fun k => decide (0 < (dn way turn p k).1) && smallB (dUnit way turn (dn way turn p k)))
  && (List.range (hrN way turn p + 1)).all (fun k => smallB (dn way turn p k).1 && smallB (dn way turn p k).2 && smallB (prodL ((hrW way turn p).take k) 1))
  && (hrW way turn p).all (fun u => decide (0 < u) && smallB u && smallB ((prodL (hrW way turn p) 1).fdiv u))
  && (List.range (hrN way turn p)).all (fun k => decide (¬ (hrW way turn p).getD k 0 < least ((hrW way turn p).take k) way ((k : Int) + 1 == ((hrW way turn p).length : Int))))
  && smallB (sumL (hrW way turn p) way (prodL (hrW way turn p) 1)) && decide (sumL (hrW way turn p) way (prodL (hrW way turn p) 1) * p.2 = p.1 * prodL (hrW way turn p) 1) && decide (hrN way turn p ≤ 30) && smallB p.1 && smallB p.2
noncomputable def fracs : List (Int × Int) := (List.range 4).flatMap fun a => (List.range 24).map fun q => (1 + (a : Nat), (1 + (a : Nat)) + (1 + (q : Nat)))
theorem hr_1 : (fracs.all fun p => hrB (-1) 1 p) = true := by decide +kernel
theorem hr_2 : (fracs.all fun p => hrB (-1) (-1) p) = true := by decide +kernel
theorem hr_3 : (fracs.all fun p => hrB 1 1 p) = true := by decide +kernel
theorem hr_4 : (fracs.all fun p => hrB 1 (-1) p) = true := by decide +kernel
end
section
theorem unitsD_len {way turn : Int} {p : Int × Int} {n : Nat} : (unitsD way turn p n).length = n := by unfold unitsD; simp
theorem hr_of {way turn g : Int} {p : Int × Int} (hw : way = 1 ∨ way = -1) (ht : turn = 1 ∨ turn = -1) (h : hrB way turn p = true) (h0 : 0 < g) (hg : g.natAbs < 2 ^ 190) : HrOk (g * p.1, g * p.2) way turn (hrN way turn p) (hrW way turn p) := by
  unfold hrB at h
  obtain ⟨N, hN⟩ : ∃ x, x = hrN way turn p := ⟨_, rfl⟩
  obtain ⟨row, hrow⟩ : ∃ x, x = hrW way turn p := ⟨_, rfl⟩
  have hrl : row.length = N := by rw [hrow, hN]; exact unitsD_len
  have hru : unitsD way turn p N = row := by rw [hrow, hN]; rfl
  rw [← hN, ← hrow] at h ⊢
  unfold hrT at h
  simp only [Bool.and_eq_true, List.all_eq_true, decide_eq_true_eq, beq_iff_eq, List.mem_range, Bool.not_eq_true', beq_eq_false_iff_ne] at h
  obtain ⟨⟨⟨⟨⟨⟨⟨⟨⟨⟨⟨⟨⟨⟨t1, t2⟩, t3⟩, t4⟩, t5⟩, z⟩, a1⟩, a2⟩, a3⟩, a4⟩, s1⟩, e⟩, n30⟩, sp1⟩, sp2⟩ := h
  have hd : ∀ k, dn way turn (g * p.1, g * p.2) k = (g * (dn way turn p k).1, g * (dn way turn p k).2) := dn_scale h0
  have hun : ∀ k, unitsD way turn (g * p.1, g * p.2) k = unitsD way turn p k := fun k => unitsD_scale h0 k
  have htk : ∀ k, k ≤ N → unitsD way turn p k = row.take k := fun k hk => by rw [unitsD_take hk, hru]
  have hz : (dn way turn (g * p.1, g * p.2) N).1 = 0 := by rw [hd, z, Int.mul_zero]
  refine ⟨⟨hw, ht, fun k hk => ?_, ?_, fun k hk => ?_, fun k hk => ?_, fun k hk => ?_, fun k hk => ?_, ?_⟩, ?_, hz, fun k hk => ?_, ?_, ?_, t4, fun u hu => ?_, fun k u hu => ?_, fun k => ?_, fun u hu => ?_, ⟨sz_small s1, ?_, ?_⟩, hw, ?_⟩
  · rw [hd]; exact Int.mul_pos h0 (a1 k hk).1
  · rw [hz]; exact Int.le_refl 0
  · rw [hd]; exact sz_scale hg (a2 k (by (first | lia | omega))).1.1
  · rw [hd]; exact sz_scale hg (a2 k (by (first | lia | omega))).1.2
  · rw [hd, dUnit_scale h0]; exact sz_small (a1 k hk).2
  · rw [hun, htk k hk]; exact t5 k (by (first | lia | omega))
  · (first | lia | omega)
  · rw [hun, hru]
  · have hm : wsT "." (pileOf (Str.ofString "n") row) (0, 1) k ∈ Str.ofString "n" :: txts row := by
      rw [← t1]; exact List.mem_map.mpr ⟨k, List.mem_range.mpr (by (first | lia | omega)), rfl⟩
    exact t2 _ hm
  · rw [← hrl]; exact t3
  · rw [← hrl]; exact t1
  · have := a3 u hu
    refine ⟨by (first | lia | omega), ?_⟩
    exact Nat.lt_trans (of_decide_eq_true this.1.2) (Nat.pow_lt_pow_right (by decide) (by decide))
  · have hk : k < row.length := (List.getElem?_eq_some_iff.mp hu).1
    have := a4 k (by (first | lia | omega))
    rw [List.getD_eq_getElem?_getD, hu] at this
    exact this
  · by_cases hk : k < N + 1
    · exact sz_small (a2 k hk).2
    · rw [List.take_of_length_le (by (first | lia | omega))]
      have := (a2 N (by (first | lia | omega))).2
      rw [← hrl, List.take_length] at this
      exact sz_small this
  · have := a3 u hu
    exact ⟨by (first | lia | omega), sz_small this.1.2, sz_small this.2⟩
  · exact sz_390 (sz_scale hg sp1)
  · exact sz_390 (sz_scale hg sp2)
  · show sumL row way (prodL row 1) * (g * p.2) = g * p.1 * prodL row 1
    rw [Int.mul_left_comm, e, Int.mul_assoc]
theorem hrAll {way turn g : Int} {p : Int × Int} (hw : way = 1 ∨ way = -1) (ht : turn = 1 ∨ turn = -1) (hp : p ∈ fracs) (h0 : 0 < g) (hg : g.natAbs < 2 ^ 190) : ∃ N row, HrOk (g * p.1, g * p.2) way turn N row := by
  refine ⟨_, _, hr_of hw ht ?_ h0 hg⟩
  rcases hw with rfl | rfl <;> rcases ht with rfl | rfl
  · exact List.all_eq_true.mp hr_3 p hp
  · exact List.all_eq_true.mp hr_4 p hp
  · exact List.all_eq_true.mp hr_1 p hp
  · exact List.all_eq_true.mp hr_2 p hp
theorem textAll {name : Str} {way cell : Int} (hw : way = 1 ∨ way = -1) (hn : name ∈ namesX) : TextOk name (rowL way cell) := by
  have hsub : rowsX.contains (rowL way cell) = true ∧ ∀ k, k < 3 → (k ≥ (rowL way cell).length ∨ prefX.contains ((rowL way cell).take (k + 1)) = true) := by
    have hin := row_in way cell
    have : (rowsX.contains (rowL way cell) && (List.range 3).all fun k => decide (k ≥ (rowL way cell).length) || prefX.contains ((rowL way cell).take (k + 1))) = true := by
      rcases hw with rfl | rfl
      · exact List.all_eq_true.mp rows_sub2 _ hin
      · exact List.all_eq_true.mp rows_sub _ hin
    simp only [Bool.and_eq_true, List.all_eq_true, Bool.or_eq_true, decide_eq_true_eq, List.mem_range] at this
    exact this
  have hl : (rowL way cell).length ≤ 3 := (rowOk hw (.inl rfl) cell).len
  have hm : rowL way cell ∈ rowsX := by have := hsub.1; simpa using this
  have hpre : ∀ k, 0 < k → k ≤ (rowL way cell).length → (rowL way cell).take k ∈ prefX := fun k k0 k1 => by
    rcases hsub.2 (k - 1) (by (first | lia | omega)) with h | h
    · (first | lia | omega)
    · rw [show k - 1 + 1 = k from by (first | lia | omega)] at h
      simpa using h
  unfold namesX at hn
  simp only [List.mem_cons, List.not_mem_nil, or_false] at hn
  have hnb := fun x hx => List.all_eq_true.mp names_ok x hx
  rcases hn with rfl | rfl | rfl | rfl
  · exact textOk_of (hnb _ (by simp [namesX])) (List.all_eq_true.mp words_0 _ hm) fun k k0 k1 => List.all_eq_true.mp piles_0 _ (hpre k k0 k1)
  · exact textOk_of (hnb _ (by simp [namesX])) (List.all_eq_true.mp words_1 _ hm) fun k k0 k1 => List.all_eq_true.mp piles_1 _ (hpre k k0 k1)
  · exact textOk_of (hnb _ (by simp [namesX])) (List.all_eq_true.mp words_2 _ hm) fun k k0 k1 => List.all_eq_true.mp piles_2 _ (hpre k k0 k1)
  · exact textOk_of (hnb _ (by simp [namesX])) (List.all_eq_true.mp words_3 _ hm) fun k k0 k1 => List.all_eq_true.mp piles_3 _ (hpre k k0 k1)
theorem cbAll {name : Str} {way turn cell g : Int} (hw : way = 1 ∨ way = -1) (ht : turn = 1 ∨ turn = -1) (hn : name ∈ namesX) (h0 : 0 < g) (hg : g.natAbs < 2 ^ 190) : CbOk name (rowL way cell) way g turn (wordN name (rowL way cell)) :=
  cb_of hw ht (rowOk hw ht cell) (textAll hw hn) h0 hg
end
section
noncomputable def nl (l : List Nat) : Int := (l.map nlN).sum
theorem nl_nil : nl [] = 0 := rfl
theorem nl_cons (c : Nat) (l : List Nat) : nl (c :: l) = nlN c + nl l := by unfold nl; simp
theorem nl_append (l m : List Nat) : nl (l ++ m) = nl l + nl m := by unfold nl; simp
theorem nlN_eq (c : Nat) : nlN c = if c = 10 then 1 else 0 := by
  unfold nlN nlI
  have e : ((⟨#[c]⟩ : Str) == Str.ofString "\n") = decide (c = 10) := by
    have : Str.ofString "\n" = ⟨#[10]⟩ := by decide +kernel
    rw [this]
    by_cases h : c = 10
    · subst h; simp
    · simp [h]
  rw [e]
  by_cases h : c = 10 <;> simp [h]
theorem nl_count (l : List Nat) : nl l = ((l.countP (· == 10) : Nat) : Int) := by
  induction l with
  | nil => rfl
  | cons c l ih =>
    rw [nl_cons, ih, nlN_eq, List.countP_cons]
    by_cases h : c = 10
    · simp [h]; (first | lia | omega)
    · simp [h]
theorem at_nl {s : Str} {a : Nat} (h : a < s.length) : Builtin.Str.subAt s (Str.ofString "\n") a = true ↔ (sg s)[a]? = some 10 := by
  have e0 : Str.ofString "\n" = ⟨#[10]⟩ := by decide +kernel
  unfold Builtin.Str.subAt
  rw [e0]
  have hl : a < s.cps.size := h
  have e1 : (s.cps.extract a (a + Str.length ⟨#[10]⟩)) = #[s.cps[a]] := by
    apply Array.ext'
    show (s.cps.extract a (a + 1)).toList = _
    rw [Array.toList_extract]
    simp only [List.extract_eq_take_drop]
    rw [show a + 1 - a = 1 from by (first | lia | omega), List.drop_eq_getElem_cons (by simpa using hl)]
    simp
  rw [e1]
  unfold sg
  rw [Array.getElem?_toList, Array.getElem?_eq_getElem hl]
  simp
theorem occ_count (s : Str) : ∀ (n a : Nat) (st : Array Nat × Nat), a + n = s.length + 1 → st.1.size ≤ a → st.2 ≤ a →
    (forIn (List.range' a n) st (StrLaws.occBody s (Str.ofString "\n") s.length (s.length + 1))).run.fst.size = st.1.size + ((sg s).drop a).countP (· == 10)
  | 0, a, st, h, _, _ => by
    rw [List.drop_eq_nil_of_le (by rw [sg_len]; (first | lia | omega))]
    rfl
  | n + 1, a, st, h, h1, h2 => by
    rw [List.range'_succ, List.forIn_cons]
    have hone : Str.length (Str.ofString "\n") = 1 := by decide +kernel
    by_cases ha : a < s.length
    · have hd : (sg s).drop a = (sg s)[a]'(by rw [sg_len]; exact ha) :: (sg s).drop (a + 1) := List.drop_eq_getElem_cons _
      have hg : (sg s)[a]? = some ((sg s)[a]'(by rw [sg_len]; exact ha)) := List.getElem?_eq_getElem _
      have hat := at_nl ha
      rw [hg] at hat
      generalize (sg s)[a]'(by rw [sg_len]; exact ha) = c at hd hat
      rw [hd, List.countP_cons]
      by_cases hc : c = 10
      · subst hc
        unfold StrLaws.occBody
        rw [if_pos ⟨⟨⟨by (first | lia | omega), h2⟩, by rw [hone]; (first | lia | omega)⟩, hat.mpr rfl⟩]
        have ih := occ_count s n (a + 1) (st.1.push a, a + Str.length (Str.ofString "\n")) (by (first | lia | omega)) (by simp; (first | lia | omega)) (by rw [hone]; exact Nat.le_refl _)
        unfold StrLaws.occBody at ih
        refine Eq.trans ih ?_
        simp
        (first | lia | omega)
      · unfold StrLaws.occBody
        rw [if_neg fun q => hc (Option.some.inj (hat.mp q.2))]
        have ih := occ_count s n (a + 1) st (by (first | lia | omega)) (by (first | lia | omega)) (by (first | lia | omega))
        unfold StrLaws.occBody at ih
        refine Eq.trans ih ?_
        simp [hc]
    · unfold StrLaws.occBody
      rw [if_neg fun q => by have := q.1.2; rw [hone] at this; (first | lia | omega)]
      have ih := occ_count s n (a + 1) st (by (first | lia | omega)) (by (first | lia | omega)) (by (first | lia | omega))
      unfold StrLaws.occBody at ih
      refine Eq.trans ih ?_
      rw [List.drop_eq_nil_of_le (by rw [sg_len]; (first | lia | omega)), List.drop_eq_nil_of_le (by rw [sg_len]; (first | lia | omega))]
theorem count_nl (s : Str) : Txt.count s (Str.ofString "\n") = nl (sg s) := by
  unfold Txt.count
  rw [StrLaws.occ_eq, Array.length_toList, Nat.sub_zero, occ_count s (s.length + 1) 0 (#[], 0) (by (first | lia | omega)) (by simp) (by simp), nl_count]
  simp
end
section
/-- plain signs of a word -/
noncomputable def plainL : List Nat := [48, 49, 50, 51, 52, 53, 54, 55, 56, 57, 95]
noncomputable def wsL (c : Nat) : Bool := wsB whiteL c
theorem plain_ok : plainL.all (fun c => !(wsL c) && c != 92 && c != 34 && c != 10) = true := by decide +kernel
theorem plain_of {c : Nat} (h : c ∈ plainL) : wsL c = false ∧ c ≠ 92 ∧ c ≠ 34 ∧ nlN c = 0 := by
  have := List.all_eq_true.mp plain_ok c h
  simp only [Bool.and_eq_true, Bool.not_eq_true', bne_iff_ne] at this
  exact ⟨this.1.1.1, this.1.1.2, this.1.2, by rw [nlN_eq, if_neg this.2]⟩
theorem lexG_stop {stop : Nat → Bool} {c : Nat} {r tok : List Nat} {p : Nat} {L : Int} (h : stop c = true) : lexG stop (c :: r) tok p L = (tok, p + 1, L + nlN c) := by
  cases r <;> simp [lexG, h]
theorem lexG_run {stop : Nat → Bool} {d : Nat} {r : List Nat} : ∀ (cs tok : List Nat) (p : Nat) (L : Int), (∀ c ∈ cs, stop c = false ∧ c ≠ 92) → lexG stop (cs ++ d :: r) tok p L = lexG stop (d :: r) (tok ++ cs) (p + cs.length) (L + nl cs)
  | [], tok, p, L, _ => by simp [nl_nil]
  | c :: cs, tok, p, L, h => by
    obtain ⟨h1, h2⟩ := h c (.head _)
    have ih := lexG_run (d := d) (r := r) cs (tok ++ [c]) (p + 1) (L + nlN c) fun c hc => h c (.tail _ hc)
    have e : lexG stop (c :: (cs ++ d :: r)) tok p L = lexG stop (cs ++ d :: r) (tok ++ [c]) (p + 1) (L + nlN c) := by
      cases cs with
      | nil => simp [lexG, h1, h2]
      | cons c' cs' => simp [lexG, h1, h2]
    rw [List.cons_append, e, ih, nl_cons]
    congr 1
    · simp
    · simp; (first | lia | omega)
    · (first | lia | omega)
noncomputable def escC (cs : List Nat) : List Nat := cs.flatMap fun c => [92, c]
theorem lexG_esc {stop : Nat → Bool} {d : Nat} {r : List Nat} (h92 : stop 92 = false) : ∀ (cs tok : List Nat) (p : Nat) (L : Int), lexG stop (escC cs ++ d :: r) tok p L = lexG stop (d :: r) (tok ++ cs) (p + (escC cs).length) (L + nl (escC cs))
  | [], tok, p, L => by simp [escC, nl_nil]
  | c :: cs, tok, p, L => by
    have ih := lexG_esc (d := d) (r := r) h92 cs (tok ++ [c]) (p + 2) (L + nlN 92 + nlN c)
    have e : lexG stop (92 :: c :: (escC cs ++ d :: r)) tok p L = lexG stop (escC cs ++ d :: r) (tok ++ [c]) (p + 2) (L + nlN 92 + nlN c) := by
      simp [lexG, h92]
    have e2 : escC (c :: cs) = 92 :: c :: escC cs := by simp [escC]
    rw [e2, List.cons_append, List.cons_append, e, ih, nl_cons, nl_cons]
    congr 1
    · simp
    · simp; (first | lia | omega)
    · (first | lia | omega)
theorem tokF_skip {r : List Nat} : ∀ (ld : List Nat) (p : Nat) (L : Int), (∀ c ∈ ld, wsL c = true) → tokF wsL (ld ++ r) p L = tokF wsL r (p + ld.length) (L + nl ld)
  | [], p, L, _ => by simp [nl_nil]
  | c :: ld, p, L, h => by
    have h1 := h c (.head _)
    have ih := tokF_skip (r := r) ld (p + 1) (L + nlN c) fun c hc => h c (.tail _ hc)
    rw [List.cons_append, tokF, if_pos h1, ih, nl_cons]
    congr 1
    · simp; (first | lia | omega)
    · (first | lia | omega)

/-- one token: what it is, what it takes, what it leaves -/
structure Tk (R tok A R' : List Nat) : Prop where
  split : R = A ++ R'
  eq : ∀ p L, tokF wsL R p L = (tok, p + A.length, L + nl A)
theorem Tk.skip {ld R tok A R' : List Nat} (h : ∀ c ∈ ld, wsL c = true) (t : Tk R tok A R') : Tk (ld ++ R) tok (ld ++ A) R' :=
  ⟨by rw [t.split, List.append_assoc], fun p L => by
    rw [tokF_skip ld p L h, t.eq, nl_append]
    congr 2
    · simp; (first | lia | omega)
    · (first | lia | omega)⟩
theorem Tk.plain {w : List Nat} {sep : Nat} {r : List Nat} (h0 : w ≠ []) (h : ∀ c ∈ w, wsL c = false ∧ c ≠ 92 ∧ c ≠ 34) (hs : wsL sep = true) : Tk (w ++ sep :: r) w (w ++ [sep]) r := by
  cases w with
  | nil => exact absurd rfl h0
  | cons c w =>
    obtain ⟨h1, h2, h3⟩ := h c (.head _)
    refine ⟨by simp, fun p L => ?_⟩
    rw [List.cons_append, tokF, if_neg (by rw [h1]; decide)]
    unfold tokN
    rw [if_neg (by simpa using h3), if_neg (by simpa using h2), lexG_run w [c] (p + 1) (L + nlN c) fun x hx => ⟨(h x (.tail _ hx)).1, (h x (.tail _ hx)).2.1⟩, lexG_stop hs]
    simp only [List.cons_append, List.nil_append, List.length_cons, List.length_append, List.length_nil]
    rw [nl_cons, nl_append, nl_cons, nl_nil]
    congr 2
    · (first | lia | omega)
    · (first | lia | omega)
theorem w34 : wsL 34 = false := by decide +kernel
theorem w92 : wsL 92 = false := by decide +kernel
theorem Tk.quote {w : List Nat} {r : List Nat} (h : ∀ c ∈ w, c ≠ 92 ∧ c ≠ 34) : Tk (34 :: (w ++ 34 :: r)) w (34 :: (w ++ [34])) r := by
  refine ⟨by simp, fun p L => ?_⟩
  rw [tokF, if_neg (by rw [w34]; decide)]
  unfold tokN
  rw [if_pos (by decide), lexG_run w [] (p + 1) (L + nlN 34) fun x hx => ⟨by simpa using (h x hx).2, (h x hx).1⟩, lexG_stop (by decide)]
  simp only [List.nil_append, List.length_cons, List.length_append, List.length_nil]
  rw [nl_cons, nl_append, nl_cons, nl_nil]
  congr 2
  · (first | lia | omega)
  · (first | lia | omega)
theorem Tk.esc {w : List Nat} {sep : Nat} {r : List Nat} (h0 : w ≠ []) (hs : wsL sep = true) : Tk (escC w ++ sep :: r) w (escC w ++ [sep]) r := by
  cases w with
  | nil => exact absurd rfl h0
  | cons c w =>
    refine ⟨by simp, fun p L => ?_⟩
    have e2 : escC (c :: w) = 92 :: c :: escC w := by simp [escC]
    rw [e2, List.cons_append, List.cons_append, tokF, if_neg (by rw [w92]; decide)]
    unfold tokN
    rw [if_neg (by decide), if_pos (by decide)]
    unfold tokB
    dsimp only
    rw [lexG_esc w92 w [c] (p + 1 + 1) (L + nlN 92 + nlN c), lexG_stop hs]
    simp only [List.cons_append, List.nil_append, List.length_cons, List.length_append, List.length_nil]
    rw [nl_cons, nl_cons, nl_append, nl_cons, nl_nil]
    congr 2
    · (first | lia | omega)
    · (first | lia | omega)
end
section
noncomputable def dsOf (u : Int) : List Nat := sg (Str.ofString (toString u))
noncomputable def fc (m : Int) (ds : List Nat) : List Nat :=
  if m = 0 then 34 :: ((ds ++ [32]) ++ [34]) else if m = 1 then ds.take 1 ++ 95 :: ds.drop 1 else if m = 2 then escC ds else if m = 3 then 48 :: 48 :: ds else ds
noncomputable def ft (m : Int) (ds : List Nat) : List Nat :=
  if m = 0 then ds ++ [32] else if m = 1 then ds.take 1 ++ 95 :: ds.drop 1 else if m = 2 then ds else if m = 3 then 48 :: 48 :: ds else ds
noncomputable def unitB (u : Int) : Bool :=
  decide (dsOf u ≠ []) && (dsOf u).all plainL.contains
  && [(0 : Int), 1, 2, 3, 4].all (fun m => sg (fmtW m (Str.ofString (toString u))) == fc m (dsOf u) && numB (tx (ft m (dsOf u))) u && !(tx (ft m (dsOf u)) == Str.ofString ".") && decide ((fmtW m (Str.ofString (toString u))).length ≤ 1000))
  && (Str.ofString (toString u)).cps.all (· < 128) && decide ((Str.ofString (toString u)).length ≤ 100) && JoinOk (Str.ofString "") (escL (Str.ofString (toString u))) && decide ((strCut (Str.ofString (toString u)) none (some 1)).length ≤ 100) && decide ((strCut (Str.ofString (toString u)) (some 1) none).length ≤ 100)
  && decide (u.natAbs < 1000)
theorem units_ok : unitsX.all unitB = true := by decide +kernel
theorem units_sub : ((rowsOf (-1)).all fun r => r.all unitsX.contains) = true := by decide +kernel
theorem units_sub2 : ((rowsOf 1).all fun r => r.all unitsX.contains) = true := by decide +kernel

structure UnitOk (u : Int) : Prop where
  ne : dsOf u ≠ []
  plain : ∀ c ∈ dsOf u, c ∈ plainL
  fmt : ∀ m : Int, 0 ≤ m → m < 5 → sg (fmtW m (Str.ofString (toString u))) = fc m (dsOf u) ∧ numB (tx (ft m (dsOf u))) u = true ∧ tx (ft m (dsOf u)) ≠ Str.ofString "." ∧ (fmtW m (Str.ofString (toString u))).length ≤ 1000
  word : WordOk (Str.ofString (toString u))
  small : u.natAbs < 1000
theorem unitOk_of {u : Int} (h : unitB u = true) : UnitOk u := by
  unfold unitB at h
  simp only [Bool.and_eq_true, decide_eq_true_eq, List.all_eq_true, beq_iff_eq, Bool.not_eq_true', beq_eq_false_iff_ne, List.contains_iff_mem] at h
  obtain ⟨⟨⟨⟨⟨⟨⟨⟨h1, h2⟩, h3⟩, h4⟩, h5⟩, h6⟩, h7⟩, h8⟩, h9⟩ := h
  refine ⟨h1, fun c hc => by simpa using h2 c hc, fun m m0 m1 => ?_, ⟨h4, h5, h6, h7, h8⟩, h9⟩
  have hm : m ∈ [(0 : Int), 1, 2, 3, 4] := by simp; (first | lia | omega)
  obtain ⟨⟨⟨a, b⟩, c⟩, d⟩ := h3 m hm
  exact ⟨a, b, c, d⟩
theorem unitOk {way cell : Int} (hw : way = 1 ∨ way = -1) : ∀ u ∈ rowL way cell, UnitOk u := fun u hu => by
  have hin := row_in way cell
  have : ((rowL way cell).all unitsX.contains) = true := by
    rcases hw with rfl | rfl
    · exact List.all_eq_true.mp units_sub2 _ hin
    · exact List.all_eq_true.mp units_sub _ hin
  have hx := List.all_eq_true.mp this u hu
  exact unitOk_of (List.all_eq_true.mp units_ok u (by simpa using hx))
theorem fmt_any {m : Int} {w : Str} : ∃ j : Int, 0 ≤ j ∧ j < 5 ∧ fmtW m w = fmtW j w := by
  by_cases h : 0 ≤ m ∧ m < 4
  · exact ⟨m, h.1, by (first | lia | omega), rfl⟩
  · refine ⟨4, by decide, by decide, ?_⟩
    have h0 : (m == 0) = false := by simp; (first | lia | omega)
    have h1 : (m == 1) = false := by simp; (first | lia | omega)
    have h2 : (m == 2) = false := by simp; (first | lia | omega)
    have h3 : (m == 3) = false := by simp; (first | lia | omega)
    unfold fmtW
    rw [h0, h1, h2, h3]
    rfl

theorem Tk.unit {ds : List Nat} {m : Int} (h0 : ds ≠ []) (hp : ∀ c ∈ ds, c ∈ plainL) {sep : Nat} (hs : wsL sep = true) {r : List Nat} :
    Tk (fc m ds ++ sep :: r) (ft m ds) (fc m ds ++ (if m = 0 then [] else [sep])) ((if m = 0 then [sep] else []) ++ r) := by
  have hq : ∀ c ∈ ds, wsL c = false ∧ c ≠ 92 ∧ c ≠ 34 := fun c hc => ⟨(plain_of (hp c hc)).1, (plain_of (hp c hc)).2.1, (plain_of (hp c hc)).2.2.1⟩
  have hpl : ∀ {w : List Nat}, (∀ c ∈ w, c ∈ plainL) → ∀ c ∈ w, wsL c = false ∧ c ≠ 92 ∧ c ≠ 34 := fun hw c hc => ⟨(plain_of (hw c hc)).1, (plain_of (hw c hc)).2.1, (plain_of (hw c hc)).2.2.1⟩
  unfold fc ft
  by_cases m0 : m = 0
  · simp only [m0, if_true]
    have := Tk.quote (w := ds ++ [32]) (r := sep :: r) (fun c hc => by
      rcases List.mem_append.mp hc with h | h
      · exact (hq c h).2
      · simp at h; subst h; decide)
    simpa using this
  · simp only [m0, if_false]
    rw [List.nil_append]
    by_cases m1 : m = 1
    · simp only [m1, if_true]
      exact Tk.plain (by simp) (hpl fun c hc => by
        rcases List.mem_append.mp hc with h | h
        · exact hp c (List.mem_of_mem_take h)
        · rcases List.mem_cons.mp h with rfl | h
          · decide
          · exact hp c (List.mem_of_mem_drop h)) hs
    · simp only [m1, if_false]
      by_cases m2 : m = 2
      · simp only [m2, if_true]
        exact Tk.esc h0 hs
      · simp only [m2, if_false]
        by_cases m3 : m = 3
        · simp only [m3, if_true]
          exact Tk.plain (by simp) (hpl fun c hc => by
            rcases List.mem_cons.mp hc with rfl | h
            · decide
            · rcases List.mem_cons.mp h with rfl | h
              · decide
              · exact hp c h) hs
        · simp only [m3, if_false]
          exact Tk.plain h0 (hpl hp) hs
theorem Tk.step {t R tok A R' C : List Nat} {q : Nat × Int} {k : Nat} (T : Tk R tok A R') (h : pl wsL t q k = (C.length, 1 + nl C)) (ht : t = C ++ R) :
    tk wsL t q k = tx tok ∧ pl wsL t q (k + 1) = ((C ++ A).length, 1 + nl (C ++ A)) ∧ t = (C ++ A) ++ R' := by
  have hd : t.drop C.length = R := by rw [ht, List.drop_left]
  refine ⟨?_, ?_, by rw [ht, T.split, List.append_assoc]⟩
  · unfold tk
    rw [h]
    dsimp only
    rw [hd, T.eq]
  · rw [pl, h]
    dsimp only
    rw [hd, T.eq, nl_append]
    dsimp only
    congr 1
    · simp
    · (first | lia | omega)
noncomputable def rc : Int → List Int → List Nat
  | _, [] => []
  | left, u :: r => fc (left.fmod 5) (dsOf u) ++ sepC ((left.fdiv 5).fmod 4) :: rc ((left.fdiv 5).fdiv 4) r
theorem seps_ok : ([0, 1, 2, 3].all fun m => wsL (sepC m)) = true := by decide +kernel
theorem sep_ok (x : Int) : wsL (sepC (x.fmod 4)) = true := by
  have h : 0 ≤ x.fmod 4 ∧ x.fmod 4 < 4 := by rw [Int.fmod_eq_emod_of_nonneg _ (by decide)]; (first | lia | omega)
  exact List.all_eq_true.mp seps_ok _ (by simp; (first | lia | omega))
theorem row_lex {t : List Nat} {q : Nat × Int} {rest : List Nat} : ∀ (row : List Int) (left : Int) (k0 : Nat) (C ld : List Nat), (∀ u ∈ row, UnitOk u) → (∀ c ∈ ld, wsL c = true) → pl wsL t q k0 = (C.length, 1 + nl C) → t = C ++ (ld ++ (rc left row ++ 46 :: 10 :: rest)) →
    (∀ i, i < row.length → ∃ m : Int, 0 ≤ m ∧ m < 5 ∧ tk wsL t q (k0 + i) = tx (ft m (dsOf (row.getD i 0)))) ∧ tk wsL t q (k0 + row.length) = tx [46] ∧ pl wsL t q (k0 + row.length + 1) = ((C ++ (ld ++ (rc left row ++ [46, 10]))).length, 1 + nl (C ++ (ld ++ (rc left row ++ [46, 10]))))
  | [], left, k0, C, ld, _, hl, hq, ht => by
    have T := Tk.skip hl (Tk.plain (w := [46]) (sep := 10) (r := rest) (by simp) (by decide +kernel) (by decide +kernel))
    obtain ⟨a, b, _⟩ := T.step hq ht
    exact ⟨fun i hi => by simp at hi, a, b⟩
  | u :: row, left, k0, C, ld, hu, hl, hq, ht => by
    have hU := hu u (.head _)
    have h5 : 0 ≤ left.fmod 5 ∧ left.fmod 5 < 5 := by rw [Int.fmod_eq_emod_of_nonneg _ (by decide)]; (first | lia | omega)
    have T := Tk.skip hl (Tk.unit (m := left.fmod 5) hU.ne hU.plain (sep_ok (left.fdiv 5)) (r := rc ((left.fdiv 5).fdiv 4) row ++ 46 :: 10 :: rest))
    have ht2 : t = C ++ (ld ++ (fc (left.fmod 5) (dsOf u) ++ sepC ((left.fdiv 5).fmod 4) :: (rc ((left.fdiv 5).fdiv 4) row ++ 46 :: 10 :: rest))) := by
      rw [ht, rc]; simp
    obtain ⟨a, b, c⟩ := T.step hq ht2
    have ih := row_lex row ((left.fdiv 5).fdiv 4) (k0 + 1) _ (if left.fmod 5 = 0 then [sepC ((left.fdiv 5).fmod 4)] else []) (fun x hx => hu x (.tail _ hx)) (fun x hx => by
      by_cases h : left.fmod 5 = 0
      · rw [if_pos h] at hx; simp at hx; subst hx; exact sep_ok _
      · rw [if_neg h] at hx; simp at hx) b c
    obtain ⟨i1, i2, i3⟩ := ih
    have hC : (C ++ (ld ++ (fc (left.fmod 5) (dsOf u) ++ if left.fmod 5 = 0 then [] else [sepC ((left.fdiv 5).fmod 4)]))) ++ ((if left.fmod 5 = 0 then [sepC ((left.fdiv 5).fmod 4)] else []) ++ (rc ((left.fdiv 5).fdiv 4) row ++ [46, 10])) = C ++ (ld ++ (rc left (u :: row) ++ [46, 10])) := by
      by_cases h : left.fmod 5 = 0
      · simp [h, rc]
      · simp [h, rc]
    rw [hC] at i3
    refine ⟨fun i hi => ?_, ?_, ?_⟩
    · cases i with
      | zero => exact ⟨left.fmod 5, h5.1, h5.2, a⟩
      | succ i =>
        obtain ⟨m, m0, m1, e⟩ := i1 i (by simpa using hi)
        refine ⟨m, m0, m1, ?_⟩
        rw [show k0 + (i + 1) = k0 + 1 + i from by (first | lia | omega), e]
        rfl
    · rw [show k0 + (u :: row).length = k0 + 1 + row.length from by simp; (first | lia | omega)]; exact i2
    · rw [show k0 + (u :: row).length + 1 = k0 + 1 + row.length + 1 from by simp; (first | lia | omega)]; exact i3
end
section
theorem file_fold : ∀ (row : List Int) (left : Int) (text : Str), (∀ u ∈ row, UnitOk u) → sg (row.foldl fileU (left, text)).2 = sg text ++ rc left row
  | [], left, text, _ => by simp [rc]
  | u :: row, left, text, h => by
    have h5 : 0 ≤ left.fmod 5 ∧ left.fmod 5 < 5 := by rw [Int.fmod_eq_emod_of_nonneg _ (by decide)]; omega
    have e : fileU (left, text) u = ((left.fdiv 5).fdiv 4, text ++ (fmtW (left.fmod 5) (Str.ofString (toString u)) ++ signs (sepC ((left.fdiv 5).fmod 4)))) := rfl
    rw [List.foldl_cons, e, file_fold row _ _ fun x hx => h x (.tail _ hx), sg_app, sg_app, ((h u (.head _)).fmt _ h5.1 h5.2).1, rc]
    have e2 : sg (signs (sepC ((left.fdiv 5).fmod 4))) = [sepC ((left.fdiv 5).fmod 4)] := rfl
    rw [e2]
    simp
theorem sg_dot : sg (Str.ofString ".\n") = [46, 10] := by decide +kernel
theorem sg_nil : sg (Str.ofString "") = [] := by decide +kernel
theorem tx_dot : tx [46] = Str.ofString "." := by decide +kernel
theorem tx_nil : tx [] = Str.ofString "" := by decide +kernel
theorem file_sg {cell : Int} {r1 r2 : List Int} (h1 : ∀ u ∈ r1, UnitOk u) (h2 : ∀ u ∈ r2, UnitOk u) : ∃ L0 L1, sg (fileT cell r1 r2) = rc L0 r1 ++ 46 :: 10 :: (rc L1 r2 ++ [46, 10]) := by
  refine ⟨(cell.natAbs : Int), (r1.foldl fileU ((cell.natAbs : Int), Str.ofString "")).1, ?_⟩
  unfold fileT fileR
  dsimp only
  rw [sg_app, file_fold r2 _ _ h2, sg_app, file_fold r1 _ _ h1, sg_dot, sg_nil]
  simp
theorem file_short {cell : Int} {r1 r2 : List Int} (h1 : ∀ u ∈ r1, UnitOk u) (h2 : ∀ u ∈ r2, UnitOk u) (l1 : r1.length ≤ 3) (l2 : r2.length ≤ 3) : (fileT cell r1 r2).length ≤ 99999 := by
  have hf : ∀ {r : List Int}, (∀ u ∈ r, UnitOk u) → ∀ u ∈ r, ∀ m, (fmtW m (Str.ofString (toString u))).length ≤ 1000 := fun h u hu m => by
    obtain ⟨j, j0, j1, e⟩ := fmt_any (m := m) (w := Str.ofString (toString u))
    rw [e]; exact ((h u hu).fmt j j0 j1).2.2.2
  have a := file_len (hf h1) ((cell.natAbs : Int), Str.ofString "")
  have hdot : (Str.ofString ".\n").length = 2 := by decide +kernel
  have hnil : (Str.ofString "").length = 0 := by decide +kernel
  have app : ∀ x y : Str, (x ++ y).length = x.length + y.length := fun x y => by rw [← sg_len, sg_app, List.length_append, sg_len, sg_len]
  have b := file_len (hf h2) ((r1.foldl fileU ((cell.natAbs : Int), Str.ofString "")).1, (r1.foldl fileU ((cell.natAbs : Int), Str.ofString "")).2 ++ Str.ofString ".\n")
  unfold fileT fileR
  dsimp only at a b ⊢
  rw [app, hdot]
  rw [app, hdot] at b
  rw [hnil] at a
  omega
theorem kept_small (x : Int) : (keptI x).natAbs ≤ 10 ^ 30 := by
  have h : 0 ≤ (x.natAbs : Int).fmod (10 ^ 30) ∧ (x.natAbs : Int).fmod (10 ^ 30) < 10 ^ 30 := by
    rw [Int.fmod_eq_emod_of_nonneg _ (by decide)]; omega
  unfold keptI
  split <;> omega
theorem getD_set_le {l : List Int} {i j : Nat} {v B : Int} (h : ∀ k, ((l.getD k 0).natAbs : Int) ≤ B) (hv : (v.natAbs : Int) ≤ B) : (((l.set i v).getD j 0).natAbs : Int) ≤ B := by
  rw [List.getD_eq_getElem?_getD, List.getElem?_set]
  have hj := h j
  rw [List.getD_eq_getElem?_getD] at hj
  split
  · split
    · exact hv
    · have h0 : (0 : Int) ≤ B := by have := h i; omega
      simpa using h0
  · exact hj
theorem cells_small (script : List Int) : ∀ (n k : Nat), (((cellsP script firstC n).getD k 0).natAbs : Int) ≤ 1544920 + n * 10 ^ 30
  | 0, k => by
    show ((firstC.getD k 0).natAbs : Int) ≤ _
    unfold firstC
    match k with
    | 0 => decide
    | 1 => decide
    | 2 => decide
    | 3 => decide
    | 4 => decide
    | 5 => decide
    | 6 => decide
    | 7 => decide
    | k + 8 => simp
  | n + 1, k => by
    have ih := cells_small script n
    rw [cellsP]
    refine getD_set_le (fun k => ?_) ?_
    · have := ih k; omega
    · have := ih (n % firstC.length)
      have := kept_small (script.getD n 0)
      omega
end
section
theorem list8 {l : List Int} (h : l.length = 8) : ∃ a b c d e f g i, l = [a, b, c, d, e, f, g, i] :=
  let ⟨a, _, e1, h⟩ := listS h; let ⟨b, _, e2, h⟩ := listS h; let ⟨c, _, e3, h⟩ := listS h; let ⟨d, e, f, g, i, e4⟩ := list5 h
  ⟨a, b, c, d, e, f, g, i, e1.trans (congrArg _ (e2.trans (congrArg _ (e3.trans (congrArg _ e4)))))⟩
theorem menu_name (x : Int) : ∃ name, menuL[(x.fmod 4).toNat]? = some (.str name) ∧ name ∈ namesX := by
  have h : 0 ≤ x.fmod 4 ∧ x.fmod 4 < 4 := by rw [Int.fmod_eq_emod_of_nonneg _ (by decide)]; omega
  have hk : (x.fmod 4).toNat = 0 ∨ (x.fmod 4).toNat = 1 ∨ (x.fmod 4).toNat = 2 ∨ (x.fmod 4).toNat = 3 := by omega
  rcases hk with e | e | e | e <;> rw [e]
  · exact ⟨_, rfl, by simp [namesX]⟩
  · exact ⟨_, rfl, by simp [namesX]⟩
  · exact ⟨_, rfl, by simp [namesX]⟩
  · exact ⟨_, rfl, by simp [namesX]⟩

theorem lawOk (script : List Int) (hlen : script.length ≤ 63) : ∃ c0 c1 c2 c3 c4 c5 c6 c7 r1 r2 text name q2 q3 turn factor over under M1 M2 N1 N2 w1 w2, LawOk script c0 c1 c2 c3 c4 c5 c6 c7 r1 r2 text name q2 q3 turn factor over under M1 M2 N1 N2 w1 w2 := by
  obtain ⟨c0, c1, c2, c3, c4, c5, c6, c7, hc⟩ := list8 (l := cellsP script firstC script.length) (cellsP_len ..)
  have hb : ∀ k, (([c0, c1, c2, c3, c4, c5, c6, c7].getD k 0).natAbs : Int) ≤ 1544920 + 63 * 10 ^ 30 := fun k => by
    have := cells_small script script.length k
    rw [hc] at this
    have h63 : ((script.length : Nat) : Int) ≤ 63 := by omega
    omega
  have hb3 : (c3.natAbs : Int) ≤ 1544920 + 63 * 10 ^ 30 := hb 3
  have hb7 : (c7.natAbs : Int) ≤ 1544920 + 63 * 10 ^ 30 := hb 7
  obtain ⟨name, hname, hmem⟩ := menu_name c3
  obtain ⟨r1, hr1⟩ : ∃ x, x = rowL (-1) c0 := ⟨_, rfl⟩
  obtain ⟨r2, hr2⟩ : ∃ x, x = rowL 1 c1 := ⟨_, rfl⟩
  have k1 : r1.length ≤ 3 := by rw [hr1]; exact (rowOk (.inr rfl) (.inl rfl) c0).len
  have k2 : r2.length ≤ 3 := by rw [hr2]; exact (rowOk (.inl rfl) (.inl rfl) c1).len
  have u1 : ∀ u ∈ r1, UnitOk u := by rw [hr1]; exact unitOk (.inr rfl)
  have u2 : ∀ u ∈ r2, UnitOk u := by rw [hr2]; exact unitOk (.inl rfl)
  obtain ⟨text, htext⟩ : ∃ x, x = fileT c2 r1 r2 := ⟨_, rfl⟩
  obtain ⟨L0, L1, hsg⟩ := file_sg (cell := c2) u1 u2
  have hshort := file_short (cell := c2) u1 u2 k1 k2
  rw [← htext] at hsg hshort
  have x1 := row_lex (t := sg text) (q := (0, 1)) (rest := rc L1 r2 ++ [46, 10]) r1 L0 0 [] [] u1 (by simp) rfl (by rw [hsg]; simp)
  obtain ⟨a1, a2, a3⟩ := x1
  obtain ⟨C1, hC1⟩ : ∃ x, x = rc L0 r1 ++ [46, 10] := ⟨_, rfl⟩
  rw [List.nil_append, List.nil_append, ← hC1, Nat.zero_add] at a3
  have x2 := row_lex (t := sg text) (q := (C1.length, 1 + nl C1)) (rest := []) r2 L1 0 C1 [] u2 (by simp) rfl (by rw [hsg, hC1]; simp)
  obtain ⟨b1, b2, b3⟩ := x2
  have hall : C1 ++ ([] ++ (rc L1 r2 ++ [46, 10])) = sg text := by rw [hsg, hC1]; simp
  rw [hall, Nat.zero_add] at b3
  have T0 : tokF wsL ((sg text).drop (sg text).length) (sg text).length (1 + nl (sg text)) = ([], (sg text).length + 1, 1 + nl (sg text)) := by
    rw [List.drop_length]; rfl
  have hf4 : 0 ≤ (c3.fdiv 4).fmod 2 ∧ (c3.fdiv 4).fmod 2 < 2 := by rw [Int.fmod_eq_emod_of_nonneg _ (by decide)]; omega
  have ht : 1 - 2 * (c3.fdiv 4).fmod 2 = 1 ∨ 1 - 2 * (c3.fdiv 4).fmod 2 = -1 := by omega
  have ht' : -(1 - 2 * (c3.fdiv 4).fmod 2) = 1 ∨ -(1 - 2 * (c3.fdiv 4).fmod 2) = -1 := by omega
  have hf97 : 0 ≤ (c4.natAbs : Int).fmod 97 ∧ (c4.natAbs : Int).fmod 97 < 97 := by rw [Int.fmod_eq_emod_of_nonneg _ (by decide)]; omega
  have hfac0 : 0 < 1 + (c4.natAbs : Int).fmod 97 := by omega
  have hfac : (1 + (c4.natAbs : Int).fmod 97).natAbs < 2 ^ 190 := Nat.lt_trans (show _ < 1000 by omega) (by decide)
  have hg0 : 0 < 1 + (c7.natAbs : Int) := by omega
  have hg : (1 + (c7.natAbs : Int)).natAbs < 2 ^ 190 := Nat.lt_of_le_of_lt (show _ ≤ 1544921 + 63 * 10 ^ 30 by omega) (by decide)
  have f5 : 0 ≤ c5.fmod 4 ∧ c5.fmod 4 < 4 := by rw [Int.fmod_eq_emod_of_nonneg _ (by decide)]; omega
  have f6 : 0 ≤ c6.fmod 24 ∧ c6.fmod 24 < 24 := by rw [Int.fmod_eq_emod_of_nonneg _ (by decide)]; omega
  have hp : ((1 + c5.fmod 4, (1 + c5.fmod 4) + (1 + c6.fmod 24)) : Int × Int) ∈ fracs := by
    unfold fracs
    refine List.mem_flatMap.mpr ⟨(c5.fmod 4).toNat, List.mem_range.mpr (by omega), List.mem_map.mpr ⟨(c6.fmod 24).toNat, List.mem_range.mpr (by omega), ?_⟩⟩
    rw [Int.toNat_of_nonneg f5.1, Int.toNat_of_nonneg f6.1]
  obtain ⟨N1, w1, H1⟩ := hrAll (way := -1) (.inr rfl) ht' hp hg0 hg
  obtain ⟨N2, w2, H2⟩ := hrAll (way := 1) (.inl rfl) ht hp hg0 hg
  have eo : (1 + (c7.natAbs : Int)) * (1 + c5.fmod 4) = (1 + c5.fmod 4) * (1 + (c7.natAbs : Int)) := Int.mul_comm ..
  have eu : (1 + (c7.natAbs : Int)) * ((1 + c5.fmod 4) + (1 + c6.fmod 24)) = (1 + c5.fmod 4) * (1 + (c7.natAbs : Int)) + (1 + c6.fmod 24) * (1 + (c7.natAbs : Int)) := by
    rw [Int.mul_add, eo, Int.mul_comm _ (1 + c6.fmod 24)]
  dsimp only at H1 H2
  rw [eo, eu] at H1 H2
  have num : ∀ (r : List Int) (q : Nat × Int), (∀ u ∈ r, UnitOk u) → (∀ i, i < r.length → ∃ m : Int, 0 ≤ m ∧ m < 5 ∧ tk wsL (sg text) q (0 + i) = tx (ft m (dsOf (r.getD i 0)))) → ∀ i, i < r.length → numB (wsT whiteL text q i) (r.getD i 0) = true ∧ wsT whiteL text q i ≠ Str.ofString "." := fun r q hu hx i hi => by
    obtain ⟨m, m0, m1, e⟩ := hx i hi
    rw [Nat.zero_add] at e
    have hin : r.getD i 0 ∈ r := by rw [List.getD_eq_getElem?_getD, List.getElem?_eq_getElem hi]; exact List.getElem_mem _
    have hm := (hu _ hin).fmt m m0 m1
    show numB (tk wsL (sg text) q i) _ = true ∧ tk wsL (sg text) q i ≠ _
    rw [e]
    exact ⟨hm.2.1, hm.2.2.1⟩
  refine ⟨c0, c1, c2, c3, c4, c5, c6, c7, r1, r2, text, name, (C1.length, 1 + nl C1), ((sg text).length, 1 + nl (sg text)), 1 - 2 * (c3.fdiv 4).fmod 2, 1 + (c4.natAbs : Int).fmod 97, (1 + c5.fmod 4) * (1 + (c7.natAbs : Int)), (1 + c5.fmod 4) * (1 + (c7.natAbs : Int)) + (1 + c6.fmod 24) * (1 + (c7.natAbs : Int)), wordN name r1, wordN name r2, N1, N2, w1, w2, ?_⟩
  exact {
    len := hlen
    cells := hc
    row1 := hr1.symm
    row2 := hr2.symm
    big1 := (big_of bigB_1 c0).1
    big2 := (big_of bigB_2 c1).1
    len1 := (big_of bigB_1 c0).2
    len2 := (big_of bigB_2 c1).2
    word := fun u hu => by
      have hU : UnitOk u := (List.mem_append.mp hu).elim (u1 u) (u2 u)
      exact ⟨Nat.lt_trans hU.small (Nat.lt_of_lt_of_le (show 1000 < 2 ^ 10 by decide) (Nat.pow_le_pow_right (by decide) (by decide))), hU.word⟩
    fmt := fun u hu m => by
      have hU : UnitOk u := (List.mem_append.mp hu).elim (u1 u) (u2 u)
      obtain ⟨j, j0, j1, e⟩ := fmt_any (m := m) (w := Str.ofString (toString u))
      rw [e]; exact (hU.fmt j j0 j1).2.2.2
    l1 := by omega
    l2 := by omega
    file := htext.symm
    tlen := hshort
    u1 := num _ _ u1 a1
    u1e := by rw [Nat.zero_add] at a2; rw [← tx_dot]; exact a2
    eq2 := a3
    u2 := num _ _ u2 b1
    u2e := by rw [Nat.zero_add] at b2; rw [← tx_dot]; exact b2
    eq3 := b3
    last := by
      show tx (tokF wsL ((sg text).drop (sg text).length) (sg text).length (1 + nl (sg text))).1 = _
      rw [T0]; exact tx_nil
    line := by
      show (tokF wsL ((sg text).drop (sg text).length) (sg text).length (1 + nl (sg text))).2.2 = _
      rw [T0, count_nl]
    eName := hname
    z3 := by
      rw [Int.fdiv_eq_ediv_of_nonneg _ (by decide)]
      exact Nat.lt_of_le_of_lt (show _ ≤ 1544920 + 63 * 10 ^ 30 by omega) (Nat.lt_of_lt_of_le (show 1544920 + 63 * 10 ^ 30 < 2 ^ 190 by decide) (Nat.pow_le_pow_right (by decide) (by decide)))
    eTurn := rfl
    eFactor := rfl
    zg := Nat.lt_of_lt_of_le hg (Nat.pow_le_pow_right (by decide) (by decide))
    eOver := rfl
    eUnder := rfl
    cb1 := by rw [hr1]; exact cbAll (.inr rfl) ht hmem hfac0 hfac
    cb2 := by rw [hr2]; exact cbAll (.inl rfl) ht' hmem hfac0 hfac
    hr1 := H1
    hr2 := H2 }
end
section
noncomputable def Z39 (w : World) (s₁ : Shared) (mg mb : Str → Option Value) : Zt :=
  { prog := PySem.Challenge.rw_zo0036_01.row.prog, w := w, H0 := ghostOf s₁.heap [(87, 83), (80, 76), (52, 48), (176, 172)], os0 := s₁.os, mg := mg, mb := mb, tabs := tabs39, K := hd.heap_39 w.params }
theorem ns_ghost {h : Heap} {a : Addr} {m : Str → Option Value} (x : h.Ns a m) (ha : a ∉ TB) : (ghostOf h [(87, 83), (80, 76), (52, 48), (176, 172)]).Ns a m := by
  obtain ⟨o, es, ep, e, r⟩ := x
  exact ⟨o, es, ep, ghost_ne e ha, r⟩
theorem W39_of {w : World} {s₁ : Shared} {p : Program} {loose : List Str} {mean : ExcName → Option Value} {mg mb : Str → Option Value} (KX : (hd.heap_39 w.params).In s₁.heap) (T : Top p loose mean mg mb s₁.heap) (hT : TabsAt [(87, 83), (80, 76), (52, 48), (176, 172)] s₁.heap) : W39 (Z39 w s₁ mg mb) where
  ok := {
    k := fun a o e => by
      refine ghost_ne (KX a o e) fun hm => ?_
      have hm : a ∈ TB := hm
      unfold TB at hm
      simp only [List.mem_cons, List.not_mem_nil, or_false] at hm
      rcases hm with rfl | rfl | rfl | rfl <;> cases e
    g := ns_ghost T.g (by decide)
    b := ns_ghost T.b (by decide)
    lim := let ⟨mc, a, b⟩ := T.nolimit; ⟨mc, ns_ghost a (by decide), b⟩
    nodig := let ⟨mc, a, b⟩ := T.nodigits; ⟨mc, ns_ghost a (by decide), b⟩
    bmain := by
      obtain ⟨bm, ob, b1, b2, b3, b4, b5, b6⟩ := T.bmain
      refine ⟨bm, ob, b1, b2, ?_, ghost_get hT b3 (fun q => by rw [q] at b4; cases b4), b4, b5, b6⟩
      rintro rfl
      obtain ⟨o, es, ep, e, d, _⟩ := T.g
      rw [b3] at e
      cases e
      rw [b6] at d
      cases d
    heads := fun t ht => by
      have : (t.c, t.P) ∈ ([(87, 83), (80, 76), (52, 48), (176, 172)] : List (Addr × Addr)) := by
        have ht : t ∈ tabs39 := ht
        unfold tabs39 at ht
        simp only [List.mem_cons, List.not_mem_nil, or_false] at ht
        rcases ht with rfl | rfl | rfl | rfl <;> simp
      obtain ⟨o, vs, file, tf, flags, tg, inF, text, tt, e1, r1, r2, r3, r4, r5, r6, r7, r8, hne⟩ := (hT _ this).1
      exact ⟨o, vs, file, tf, flags, tg, inF, text, tt, ghost_get hT e1 (fun q => by rw [q] at r1; cases r1), r1, r2, r3, r4, r5, r6, r7, r8, hne⟩
    apart := fun t ht t' ht' e => by
      have ht : t ∈ tabs39 := ht
      have ht' : t' ∈ tabs39 := ht'
      unfold tabs39 at ht ht'
      simp only [List.mem_cons, List.not_mem_nil, or_false] at ht ht'
      rcases ht with rfl | rfl | rfl | rfl <;> rcases ht' with rfl | rfl | rfl | rfl <;> first | rfl | (simp at e)
    hid := fun P hP => hideAll_none _ hP
    quals := fun t ht => by
      have ht : t ∈ tabs39 := ht
      unfold tabs39 at ht
      simp only [List.mem_cons, List.not_mem_nil, or_false] at ht
      rcases ht with rfl | rfl | rfl | rfl <;> (dsimp only; decide +kernel) }
  K := rfl
  names := fun x v e => by
    cases v with
    | none => exact ns_none_of KX T.g e
    | some v => exact mg_of KX T.g e
  free := fun x v h1 h2 h3 => (T.builtins x h3).trans h2
  tabs := rfl

theorem okh_of {w : World} {s₁ : Shared} {mg mb : Str → Option Value} (hT : TabsAt [(87, 83), (80, 76), (52, 48), (176, 172)] s₁.heap) (hg : s₁.gens = #[]) : Okh (Z39 w s₁ mg mb) 20 callerA [] [] s₁ where
  depth := by decide
  units := by decide
  handled := rfl
  frames := ⟨[], rfl, fun e he => by simp at he⟩
  rel := {
    len := rfl
    nodup := .nil
    new := fun a ha => by simp at ha
    objs := fun i o a e _ => by simp at e
    base := fun a o e => of_hideAll _ e
    tabs := fun t ht => by
      have ht : t ∈ tabs39 := ht
      unfold tabs39 at ht
      simp only [List.mem_cons, List.not_mem_nil, or_false] at ht
      rcases ht with rfl | rfl | rfl | rfl
      · exact .inl (hT (87, 83) (by simp)).2
      · exact .inl (hT (80, 76) (by simp)).2
      · exact .inl (hT (52, 48) (by simp)).2
      · exact .inl (hT (176, 172) (by simp)).2
    inTB := fun t ht => by
      have ht : t ∈ tabs39 := ht
      unfold tabs39 at ht
      simp only [List.mem_cons, List.not_mem_nil, or_false] at ht
      rcases ht with rfl | rfl | rfl | rfl <;> (unfold TB; simp)
    tb := fun P hP => by
      unfold TB at hP
      simp only [List.mem_cons, List.not_mem_nil, or_false] at hP
      rcases hP with rfl | rfl | rfl | rfl
      · exact ⟨_, (hT (87, 83) (by simp)).2⟩
      · exact ⟨_, (hT (80, 76) (by simp)).2⟩
      · exact ⟨_, (hT (52, 48) (by simp)).2⟩
      · exact ⟨_, (hT (176, 172) (by simp)).2⟩
    gens := hg
    os := rfl }
theorem law_runs {w : World} {s₁ : Shared} {p : Program} {loose : List Str} {mean : ExcName → Option Value} {mg mb : Str → Option Value} (KX : (hd.heap_39 w.params).In s₁.heap) (T : Top p loose mean mg mb s₁.heap) (hT : TabsAt [(87, 83), (80, 76), (52, 48), (176, 172)] s₁.heap) (hg : s₁.gens = #[])
    {a : Addr} {vs : List Value} {ns : List Int} (hL : s₁.heap.IsList a vs.toArray) (hI : IntsAre vs ns) (hlen : ns.length ≤ 63) {fa : Addr} (hfa : mg (Str.ofString "law") = some (.ref fa)) {cw : ClaimW} {cl : Str → Option Addr} {mean' : ExcName → Option Value} {args : List WData} (hr : ∀ a x, cw.raises a x = false) (hpost : cw.post args (.bool true) args = true) :
    codeAny (model PySem.Challenge.rw_zo0036_01.row.prog w) callerA (.call (.ref fa) ⟨[.ref a], []⟩) (GoodWG cw cl mean' args s₁) s₁ := by
  have e260 : mg (Str.ofString "law") = some (.ref 260) := mg_of KX T.g (by rfl)
  rw [hfa] at e260
  cases e260
  have W := W39_of KX T hT
  have hL2 : (Z39 w s₁ mg mb).H0.IsList a vs.toArray := by
    obtain ⟨o, e, c, d⟩ := hL
    exact ⟨o, ghost_get hT e (fun q => by rw [q] at c; cases c), c, d⟩
  obtain ⟨_, _, _, _, _, _, _, _, _, _, _, _, _, _, _, _, _, _, _, _, _, _, _, _, H⟩ := lawOk ns hlen
  obtain ⟨σ', hc⟩ := c_law W (D := 20) (Nat.le_refl _) hL2 hI H
  refine kn_post hT hr (codeAny_mono (hc callerA s₁ [] (.ref 260) [.ref a] (okh_of hT hg) (.fix _) ⟨rfl, fun i x v e1 e2 => ?_⟩) fun r s' q => ?_)
  · match i, e1, e2 with
    | 0, e1, e2 => cases e1; cases e2; exact .fix _
  · cases r with
    | error e => exact q.elim
    | ok fl =>
      cases fl with
      | ret v =>
        obtain ⟨ρ', ok', st', rv⟩ := q
        have rv : RepV ρ' s'.heap (.bool true) v := rv
        cases rv
        refine ⟨⟨.inl ⟨_, .bool true, [], rfl, fun x => hr _ _, .bool true, hpost, fun _ => ⟨.nil, fun a ha => by simp at ha⟩⟩, ok'.rel.base, ok'.rel.os, ok'.rel.gens⟩, ?_⟩
        have ht := ok'.rel.tb
        exact ⟨ht 83 (by unfold TB; simp), ht 76 (by unfold TB; simp), ht 48 (by unfold TB; simp), ht 172 (by unfold TB; simp), trivial⟩
      | _ => exact q.elim
end
end Mine

set_option maxHeartbeats 8000000 in
theorem PySem.Challenge.cw_zo0036_01_holds : PySem.Challenge.rw_zo0036_01.Holds := by
  exact Mine.hd (by
    k_fill
    intro w s₀ s₁ mg mb G Y fa o pm cd doc dV kV ho hd hcd hD hmg hg args vals as hpre hlay hrd hwl hlo
    have KX := km_in_of Y
    km_tabs Y
    have X := (Ground.X G).1
    have V := (Ground.X G).2
    refine Ground.open G ?_
    intro T B D TE TW
    try (refine guard_noD D (by decide +kernel) ?_; clear D)
    have hmg2 := hmg
    km_lay T hmg ho hd cd
    wrow_args hpre hlay hrd hwl hlo
    clear hd hcd
    refine enter_call ?_
    refine Mine.law_runs KX T (by assumption) hg (by assumption) (by assumption) (by omega) hmg2 (fun _ _ => rfl) ?_
    wrow_post)
